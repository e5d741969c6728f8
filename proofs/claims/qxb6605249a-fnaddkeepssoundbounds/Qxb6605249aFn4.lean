/-
  THE WALK OF FnAddKeepsSoundBounds.
-/
import Derived.Test.Qxb6605249aReady
import Derived.BigQuiet
import Derived.Deep.CutRange
import Derived.Deep.DeepCutAuto
set_option linter.unusedVariables false
set_option linter.unusedSimpArgs false
namespace Go.Proofs.Qxb6605249a
open Go.RowKit

set_option maxRecDepth 100000 in
set_option maxHeartbeats 4000000 in
theorem fn4 (n : Int) (keep : Nat) (w : World) (B : Nat) (ja sa ba qa : Option Addr) (jl jc sl sc bl bc ql qc : Nat) (J : Nat → Int) (S : Nat → Nat) (bA : Nat → Option Addr) (bL bC : Nat → Nat) (qA : Nat → Option Addr) (qL qC : Nat → Nat) (X : Nat → Nat → Int) (Y : Nat → Nat → Nat) (ms : Int) (mq : Nat)
    (hA : Arg w B ja sa ba qa jl sl bl ql J S bA bL bC qA qL qC X Y) (hB : B ≤ w.heap.size) :
    Calls Try.prog 4 #[.int .i64 n, .int .u64 keep, .slice ja jl jc, .slice sa sl sc, .slice ba bl bc, .slice qa ql qc, .int .i64 ms, .int .u64 mq] w fun e w' => e = .returned (.bool true) ∧ Below w.heap.size w w' := by
  have HA : Hid (Arg w B ja sa ba qa jl sl bl ql J S bA bL bC qA qL qC X Y) := hA
  clear hA
  go_enter Try.func4, Try.ntmps4
  go_wp2_with fail
  refine (bytes19 w B _ _ _ _ ja sa ba qa jl jc sl sc bl bc ql qc bA qA bL bC qL qC HA.out.cB HA.out.cQ).mono ?_
  rintro e w1 ⟨b1, rfl, m1, hw1⟩
  have H1 : Hid (Below w.heap.size w w1) := by rw [hw1]; exact below_drewN (Below.refl _ _) _
  clear hw1
  cases b1
  case false =>
    go_wp2_with fail
    go_ret
    exact ⟨rfl, H1.out⟩
  go_wp2_with fail
  refine (bytesB1 w1 B ja sa ba qa jl jc sl sc bl bc ql qc bA qA bL bC qL qC (HA.out.below H1.out hB).cB (HA.out.below H1.out hB).cQ).mono ?_
  rintro e w2 ⟨r, rfl, hr, m2, hw2⟩
  have H2 : Hid (Below w.heap.size w w2 ∧ (r ≤ 1048576 → (∀ i, i < bl → bL i ≤ 1048576) ∧ ∀ i, i < ql → qL i ≤ 1048576)) := ⟨by rw [hw2]; exact below_drewN H1.out _, hr⟩
  clear hw2 hr H1
  by_cases hr2 : (1048576 : Int) < (r : Int)
  · go_wp2_with fail
    go_ret
    exact ⟨rfl, H2.out.1⟩
  have H3 : Hid ((∀ i, i < bl → bL i ≤ 1048576) ∧ ∀ i, i < ql → qL i ≤ 1048576) := H2.out.2 (by omega)
  go_wp2_with fail
  refine (shape_any n w2 B ja sa ba qa jl jc sl sc bl bc ql qc J S bA bL bC qA qL qC X Y (HA.out.below H2.out.1 hB) (Nat.le_trans hB H2.out.1.size) H3.out.1 H3.out.2).mono ?_
  rintro e w3 ⟨b3, rfl, hf, hb3⟩
  have H4 : Hid (Below w.heap.size w w3 ∧ (b3 = true → Fits n jl sl bl ql J S bL qL X Y)) := ⟨H2.out.1.trans (hb3.mono H2.out.1.size), hf⟩
  clear hf hb3 H2 hr2
  cases b3
  case false =>
    go_wp2_with fail
    go_ret
    exact ⟨rfl, H4.out.1⟩
  have H5 : Hid (Fits n jl sl bl ql J S bL qL X Y) := H4.out.2 rfl
  have hjl : jl ≤ 4096 := H5.out.2.2.1
  have hsl : sl = jl := H5.out.2.2.2.2.1
  subst hsl
  go_wp2_with fail
  refine (indexOf_any w3 B ja sa sl jc sc J S ms mq (HA.out.below H4.out.1 hB).cJ (HA.out.below H4.out.1 hB).cS hjl).mono ?_
  rintro e w4 ⟨ih, im, iw⟩
  have H6 : Hid (Below w.heap.size w w4) := by rw [iw]; exact below_drewN H4.out.1 _
  clear iw
  rcases ih with ⟨i, hi, hi1, hi2, rfl⟩ | rfl
  case inr =>
    go_wp2_with fail
    go_ret
    exact ⟨rfl, H6.out⟩
  obtain ⟨k, I, J', X', hnk, e1, e2, e3, e4, e5, hJJ, hR⟩ := ready_of (HA.out.below H6.out hB) (Nat.le_trans hB H6.out.size) H5.out H3.out.1 (by omega) jc sc bc qc
  have HR : Hid (Ready w4 B k I J' S X' Y) := hR
  have hms : ms = (J' i : Int) := by rw [← hi1]; exact hJJ i hi
  subst hnk hi2 hms
  have hiL : i < I.L := by rw [e5]; exact hi
  have HE : Hid (I.L = sl) := e5
  rw [← e1, ← e2, ← e3, ← e4]
  have ej := (show Hid (I.js = .slice ja sl jc) from e1)
  have hjsl : I.js = .slice (some ⟨I.jb, I.jo, none⟩) sl I.jc := by rw [← e5]; rfl
  clear e1 e2 e3 e4 hR hJJ hi1 H5 H3 e5 HA
  obtain ⟨vs, hvs⟩ : ∃ v, v = I.seqs := ⟨_, rfl⟩
  obtain ⟨vb, hvb⟩ : ∃ v, v = I.bs := ⟨_, rfl⟩
  obtain ⟨vq, hvq⟩ : ∃ v, v = I.bq := ⟨_, rfl⟩
  rw [← hvs, ← hvb, ← hvq, hjsl]
  have HV : Hid (Value.slice (some ⟨I.jb, I.jo, none⟩) sl I.jc = I.js ∧ vs = I.seqs ∧ vb = I.bs ∧ vq = I.bq) := ⟨hjsl.symm, hvs, hvb, hvq⟩
  have hcb := cntTo_le J' I.L (J' i)
  have HC := countOf_any w4 B (some ⟨I.jb, I.jo, none⟩) sl I.jc J' (J' i) (fun _ => ⟨I.jb, I.jo, rfl, HR.out.hI.bJ, by rw [← HE.out]; exact HR.out.hI.cJ⟩) hjl
  clear hvs hvb hvq hjsl
  have hi' : (i : Int) < (sl : Int) := by omega
  obtain ⟨sl1, hsl1⟩ : ∃ x : Nat, sl = i + 1 + x := ⟨sl - (i + 1), by omega⟩
  have HSL : Hid (sl = i + 1 + sl1) := hsl1
  have hsub : (sl : Int) - ((i : Int) + 1) = (sl1 : Int) := by omega
  clear hsl1
  by_cases hk1 : (sl1 : Int) < (keep : Int)
  · have dk : decide ((sl1 : Int) < (keep : Int)) = true := by simp; omega
    have dkn : decide (sl1 < keep) = true := by simp; omega
    clear HC hcb
    have HB := HR.out.build keep
    rw [← HV.out.1, ← HV.out.2.1, ← HV.out.2.2.1, ← HV.out.2.2.2] at HB
    go_wp2_with fail
    refine HB.mono ?_
    clear HB
    rintro e w5 ⟨gb, rfl, ⟨g, R, hg⟩, hb5⟩
    have HG : Hid (Grf w5 k keep I J' S X' Y gb g R) := hg
    have HR5 : Hid (Ready w5 B k I J' S X' Y) := HR.out.below hb5
    have H7 : Hid (Below w.heap.size w w5) := H6.out.trans (hb5.mono H6.out.size)
    clear hg hb5 HR H6
    have hkept : Hid (g.first (J' i) ≤ S i) := HG.out.law.kept HR5.out.hV HG.out.ok HG.out.gn HG.out.cnt hiL (.inl (by have := HE.out; have := HSL.out; omega))
    go_wp2_with fail
    refine (HG.out.lower HR5.out.hV hiL hkept.out).mono ?_
    rintro e w6 ⟨lb, lo, lc, rfl, hlb, hls, hb6⟩
    have HG6 : Hid (Grf w6 k keep I J' S X' Y gb g R) := HG.out.below hb6
    have HR6 : Hid (Ready w6 B k I J' S X' Y) := HR5.out.below hb6
    have H8 : Hid (Below w.heap.size w w6 ∧ lb < w6.heap.size ∧ Seg w6 lb lo k (fun x => u64 (g.L (J' i) (S i) x))) := ⟨H7.out.trans (hb6.mono H7.out.size), Nat.lt_of_lt_of_le hlb hb6.size, seg_below hls hlb hb6⟩
    clear HG HR5 H7 hls hlb hb6
    go_wp2_with fail
    refine (HG6.out.upper HR6.out.hV hiL hkept.out).mono ?_
    rintro e w7 ⟨ub, uo, uc, rfl, hub, hus, hb7⟩
    have HG7 : Hid (Grf w7 k keep I J' S X' Y gb g R) := HG6.out.below hb7
    have HR7 : Hid (Ready w7 B k I J' S X' Y) := HR6.out.below hb7
    have H9 : Hid (Below w.heap.size w w7 ∧ lb < w7.heap.size ∧ Seg w7 lb lo k (fun x => u64 (g.L (J' i) (S i) x)) ∧ ub < w7.heap.size ∧ Seg w7 ub uo k (fun x => u64 (g.U (J' i) (S i) x))) :=
      ⟨H8.out.1.trans (hb7.mono H8.out.1.size), Nat.lt_of_lt_of_le H8.out.2.1 hb7.size, seg_below H8.out.2.2 H8.out.2.1 hb7, Nat.lt_of_lt_of_le hub hb7.size, seg_below hus hub hb7⟩
    clear HG6 HR6 H8 hus hub hb7
    have hp := HR7.out.pos
    rw [← HV.out.1] at hp
    have HP := hp
    clear hp
    go_wp2_with fail
    refine HP.mono ?_
    clear HP
    rintro e w8 ⟨rfl, hpt, hb8⟩
    have HP8 : Hid (∃ A C, PosT w8 w7.heap.size k I.L J' A C) := hpt
    have HR8 : Hid (Ready w8 B k I J' S X' Y) := HR7.out.below hb8
    have H10 : Hid (Below w7.heap.size w7 w8) := hb8
    clear hpt hb8
    have hq := HR8.out.reach HP8.out hiL
    rw [← HV.out.1, ← HV.out.2.1, ← HV.out.2.2.1, ← HV.out.2.2.2] at hq
    have HQ := hq
    clear hq
    go_wp2_with fail
    refine HQ.mono ?_
    clear HQ
    rintro e w9 ⟨rfl, ⟨sn, hrow, hsn⟩, hb9⟩
    have HR9 : Hid (Ready w9 B k I J' S X' Y) := HR8.out.below hb9
    have H11 : Hid (Below w7.heap.size w7 w9 ∧ ∀ x, x < I.L → (sn x = true ↔ Reach (EdgeP I.L J' S I.bL X' Y) i x)) := ⟨H10.out.trans (hb9.mono H10.out.size), hsn⟩
    have hq := HR9.out.past hrow
    rw [← HV.out.1, ← HV.out.2.1] at hq
    have HQ := hq
    clear hq hrow hsn hb9 HR8 H10 HP8
    go_wp2_with fail
    refine HQ.mono ?_
    clear HQ
    rintro e w10 ⟨rfl, hrow, hb10⟩
    have hbT : Below w7.heap.size w7 w10 := H11.out.1.trans (hb10.mono H11.out.1.size)
    have hk1 := HR9.out.hn1
    have hk2 := HR9.out.hn2
    have hb79 := hbT
    have H12 : Hid (w10.rowIs w9.heap.size 22 k (fun s => Qxb6605249a.u64 (pastTo J' S sn I.L s)) ∧ Below w.heap.size w w10 ∧ Seg w10 lb lo k (fun x => Qxb6605249a.u64 (g.L (J' i) (S i) x)) ∧ Seg w10 ub uo k (fun x => Qxb6605249a.u64 (g.U (J' i) (S i) x)) ∧ lb < w10.heap.size ∧ ub < w10.heap.size) :=
      ⟨hrow, H9.out.1.trans (hbT.mono H9.out.1.size), seg_below H9.out.2.2.1 H9.out.2.1 hbT, seg_below H9.out.2.2.2.2 H9.out.2.2.2.1 hbT, Nat.lt_of_lt_of_le H9.out.2.1 hbT.size, Nat.lt_of_lt_of_le H9.out.2.2.2.1 hbT.size⟩
    have H13 : Hid (∀ x, x < k → g.L (J' i) (S i) x ≤ pastTo J' S sn I.L x ∧ pastTo J' S sn I.L x ≤ g.U (J' i) (S i) x ∧ g.U (J' i) (S i) x ≤ cntTo J' (i + 1) x) := fun x hx => HG7.out.law.bounds HR7.out.hV hiL hkept.out H11.out.2 hx
    have HR10 : Hid (Ready w10 B k I J' S X' Y) := HR9.out.below hb10
    have hmk := run_make_row' (P := Try.prog) 24 22 (.int .u64 0) 8 Try.underlying24 Try.info22 rfl .i64 .i64 k (by omega) (by omega)
    have mk1 := hmk w10
    have hr0 : (w10.alloc (.cells (madeCells #[.int .u64 0] k) 22)).rowIs w10.heap.size 22 k (fun s => Qxb6605249a.u64 (cntTo J' 0 s)) := World.rowIs_made w10 (.int .u64 0) k 22
    have H14 : Hid ((w10.alloc (.cells (madeCells #[.int .u64 0] k) 22)).rowIs w10.heap.size 22 k (fun s => Qxb6605249a.u64 (cntTo J' 0 s)) ∧ Below w10.heap.size w10 (w10.alloc (.cells (madeCells #[.int .u64 0] k) 22))) := ⟨hr0, (Below.refl _ _).alloc (Nat.le_refl _) _⟩
    have HEV : Hid (vs = .slice (some ⟨I.sb, I.so, none⟩) I.L I.sc) := HV.out.2.1
    clear hrow hb10 hbT HR9 H11 H9 HG7 HR7 hkept HV hb79 hr0 hmk
    rw [HEV.out]
    have hiL2 : (i : Int) < (I.L : Int) := by omega
    have hLb := HR10.out.hL
    go_wp2_with fail
    clear mk1
    go_loopg [25] (i + 1) (fun gk t wr => ∃ x : Nat, x + gk = i + 1 ∧ t = .int .i64 x ∧ wr.rowIs w10.heap.size 22 k (fun s => Qxb6605249a.u64 (cntTo J' x s)) ∧ Below w10.heap.size w10 wr)
    case atStart => exact ⟨0, by omega, rfl, H14.out⟩
    case round =>
      clear H14
      obtain ⟨x, hx, rfl, hrow, hbel⟩ := hrel
      by_cases hlt : x < i + 1
      · have hlt' : (x : Int) ≤ (i : Int) := by omega
        have hxL : x < I.L := by omega
        have hxL' : (x : Int) < (I.L : Int) := by omega
        have hxs' : (x : Int) < (sl : Int) := by have := HE.out; omega
        have hR := HR10.out
        have hjn := hR.hV.j x hxL
        have hjn' : (J' x : Int) < (k : Int) := by omega
        have ljb := Nat.lt_of_lt_of_le hR.hI.bJ hR.hB
        have lsb := Nat.lt_of_lt_of_le hR.hI.bS hR.hB
        have c1 : wr.cell? ⟨I.jb, I.jo + x, none⟩ = some (.int .i64 (J' x)) := by rw [hbel.cell (p := ⟨I.jb, I.jo + x, none⟩) ljb]; exact hR.hI.cJ x hxL
        have c2 : wr.cell? ⟨I.sb, I.so + x, none⟩ = some (.int .u64 (S x)) := by rw [hbel.cell (p := ⟨I.sb, I.so + x, none⟩) lsb]; exact hR.hI.cS x hxL
        have c3 := hrow.cell hjn
        have c4 := hrow.frozen (J' x)
        have nj : I.jb ≠ w10.heap.size := by omega
        have ns : I.sb ≠ w10.heap.size := by omega
        have HQ2 : Hid (wr.rowIs w10.heap.size 22 k (fun s => Qxb6605249a.u64 (cntTo J' x s)) ∧ Below w10.heap.size w10 wr ∧ S x = cntTo J' x (J' x) + 1) := ⟨hrow, hbel, hR.hV.s x hxL⟩
        clear hR hrow hbel
        go_wp2_with fail
        go_region
        all_goals
          go_wp2_with fail
          go_roundg (gk - 1)
          case measure => omega
          case rel =>
            refine ⟨x + 1, by omega, by go_num, ?_, ?_⟩
            · refine ((HQ2.out.1.set (J' x) (.int .u64 (S x))).of_block (by first | rfl | simp [World.heap_drewN, World.setCell])).congr fun s hs => ?_
              show (if s = J' x then Value.int .u64 (S x) else Qxb6605249a.u64 _) = Qxb6605249a.u64 _
              rw [cntTo]
              by_cases e : s = J' x
              · subst e
                rw [if_pos rfl, if_pos rfl, HQ2.out.2.2]; rfl
              · rw [if_neg e, if_neg (fun h => e h.symm)]
            · first
              | exact (HQ2.out.2.1.setCell (p := ⟨w10.heap.size, J' x, none⟩) (Nat.le_refl _) _).drew
              | exact below_drewN (HQ2.out.2.1.setCell (p := ⟨w10.heap.size, J' x, none⟩) (Nat.le_refl _) _) _
      · have e : x = i + 1 := by omega
        subst e
        have H15 : Hid (wr.rowIs w10.heap.size 22 k (fun s => Qxb6605249a.u64 (cntTo J' (i + 1) s)) ∧ Below w.heap.size w wr ∧ Seg wr lb lo k (fun x => Qxb6605249a.u64 (g.L (J' i) (S i) x)) ∧ Seg wr ub uo k (fun x => Qxb6605249a.u64 (g.U (J' i) (S i) x)) ∧ wr.rowIs w9.heap.size 22 k (fun s => Qxb6605249a.u64 (pastTo J' S sn I.L s))) :=
          ⟨hrow, H12.out.2.1.trans (hbel.mono H12.out.2.1.size), seg_below H12.out.2.2.1 H12.out.2.2.2.2.1 hbel, seg_below H12.out.2.2.2.1 H12.out.2.2.2.2.2 hbel, H12.out.1.of_block (hbel.block _ H12.out.1.lt)⟩
        obtain ⟨wr0, hwr0⟩ : ∃ v, v = wr := ⟨_, rfl⟩
        rw [← hwr0] at H15 ⊢
        clear hrow hbel H12 HR10 HEV hwr0
        go_wp2_with fail
        go_loopg [26] k (fun gk t wx => ∃ x : Nat, x + gk = k ∧ t = .int .i64 x ∧ ∃ m, wx = wr0.drewN m)
        case atStart => exact ⟨0, by omega, rfl, 0, rfl⟩
        case round =>
          obtain ⟨x, hx, rfl, mm, rfl⟩ := hrel
          by_cases hlt : x < k
          · have hlt' : (x : Int) < (k : Int) := by omega
            have c1 : wr0.cell? ⟨lb, lo + x, none⟩ = some (.int .u64 (g.L (J' i) (S i) x)) := H15.out.2.2.1 x hlt
            have c2 : wr0.cell? ⟨ub, uo + x, none⟩ = some (.int .u64 (g.U (J' i) (S i) x)) := H15.out.2.2.2.1 x hlt
            have c3 : wr0.cell? ⟨w9.heap.size, x, none⟩ = some (.int .u64 (pastTo J' S sn I.L x)) := H15.out.2.2.2.2.cell hlt
            have c4 : wr0.cell? ⟨w10.heap.size, x, none⟩ = some (.int .u64 (cntTo J' (i + 1) x)) := H15.out.1.cell hlt
            have hbd := H13.out x hlt
            obtain ⟨pp, hpp⟩ : ∃ pp, pp = pastTo J' S sn I.L x := ⟨_, rfl⟩
            obtain ⟨cc, hcc⟩ : ∃ cc, cc = cntTo J' (i + 1) x := ⟨_, rfl⟩
            obtain ⟨ll, hll⟩ : ∃ ll, ll = g.L (J' i) (S i) x := ⟨_, rfl⟩
            obtain ⟨uu, huu⟩ : ∃ uu, uu = g.U (J' i) (S i) x := ⟨_, rfl⟩
            rw [← hll] at c1 hbd
            rw [← huu] at c2 hbd
            rw [← hpp] at c3 hbd
            rw [← hcc] at c4 hbd
            have f1 : decide ((pp : Int) < (ll : Int)) = false := by simp; omega
            have f2 : decide ((uu : Int) < (pp : Int)) = false := by simp; omega
            have f3 : decide ((cc : Int) < (uu : Int)) = false := by simp; omega
            have f1n : decide (pp < ll) = false := by simp; omega
            have f2n : decide (uu < pp) = false := by simp; omega
            have f3n : decide (cc < uu) = false := by simp; omega
            clear hpp hcc hll huu hbd
            go_wp2_with fail
            go_quiet (fail)
            go_wp2_with fail
            go_roundg (gk - 1)
            case measure => omega
            case rel => exact ⟨x + 1, by omega, by go_num, mm + nq, by simp⟩
          · have e : x = k := by omega
            subst e
            go_wp2_with fail
            go_ret
            exact ⟨rfl, below_drewN H15.out.2.1 _⟩
  have dk : decide ((sl1 : Int) < (keep : Int)) = false := by simp; omega
  have dkn : decide (sl1 < keep) = false := by simp; omega
  go_wp2_with fail
  refine HC.mono ?_
  clear HC
  rintro e w4b ⟨rfl, mb, hwb⟩
  have hwb2 : Below w4.heap.size w4 w4b := by rw [hwb]; exact below_drewN (Below.refl _ _) _
  have HRb : Hid (Ready w4b B k I J' S X' Y) := HR.out.below hwb2
  have H6b : Hid (Below w.heap.size w w4b) := H6.out.trans (hwb2.mono H6.out.size)
  clear hwb hwb2 HR H6
  obtain ⟨cn, hcn⟩ : ∃ cn, cn = cntTo J' sl (J' i) := ⟨_, rfl⟩
  rw [← hcn]
  have HCN : Hid (cn = cntTo J' sl (J' i)) := hcn
  clear hcn
  by_cases hk3 : S i = cn
  case neg =>
    have dq : ((S i : Int) == (cn : Int)) = false := by rw [beq_eq_false_iff_ne]; omega
    have dq2 : ((S i : Int) != (cn : Int)) = true := by rw [bne_iff_ne]; omega
    have dq3 : (S i == cn) = false := by rw [beq_eq_false_iff_ne]; omega
    have dq4 : (S i != cn) = true := by rw [bne_iff_ne]; omega
    have dq5 : decide (S i = cn) = false := by simp; omega
    clear hk3
    go_wp2_with fail
    go_ret
    exact ⟨rfl, H6b.out⟩
  have dq : ((S i : Int) == (cn : Int)) = true := by simp [hk3]
  have dq2 : ((S i : Int) != (cn : Int)) = false := by simp [hk3]
  have HK3 : Hid (S i = cntTo J' sl (J' i)) := hk3.trans HCN.out
  clear hk3 hcb
  have HB := HRb.out.build keep
  rw [← HV.out.1, ← HV.out.2.1, ← HV.out.2.2.1, ← HV.out.2.2.2] at HB
  go_wp2_with fail
  refine HB.mono ?_
  clear HB
  rintro e w5 ⟨gb, rfl, ⟨g, R, hg⟩, hb5⟩
  have HG : Hid (Grf w5 k keep I J' S X' Y gb g R) := hg
  have HR5 : Hid (Ready w5 B k I J' S X' Y) := HRb.out.below hb5
  have H7 : Hid (Below w.heap.size w w5) := H6b.out.trans (hb5.mono H6b.out.size)
  clear hg hb5 HRb H6b
  have hkept : Hid (g.first (J' i) ≤ S i) := HG.out.law.kept HR5.out.hV HG.out.ok HG.out.gn HG.out.cnt hiL (.inr (by rw [HE.out]; exact HK3.out))
  go_wp2_with fail
  refine (HG.out.lower HR5.out.hV hiL hkept.out).mono ?_
  rintro e w6 ⟨lb, lo, lc, rfl, hlb, hls, hb6⟩
  have HG6 : Hid (Grf w6 k keep I J' S X' Y gb g R) := HG.out.below hb6
  have HR6 : Hid (Ready w6 B k I J' S X' Y) := HR5.out.below hb6
  have H8 : Hid (Below w.heap.size w w6 ∧ lb < w6.heap.size ∧ Seg w6 lb lo k (fun x => u64 (g.L (J' i) (S i) x))) := ⟨H7.out.trans (hb6.mono H7.out.size), Nat.lt_of_lt_of_le hlb hb6.size, seg_below hls hlb hb6⟩
  clear HG HR5 H7 hls hlb hb6
  go_wp2_with fail
  refine (HG6.out.upper HR6.out.hV hiL hkept.out).mono ?_
  rintro e w7 ⟨ub, uo, uc, rfl, hub, hus, hb7⟩
  have HG7 : Hid (Grf w7 k keep I J' S X' Y gb g R) := HG6.out.below hb7
  have HR7 : Hid (Ready w7 B k I J' S X' Y) := HR6.out.below hb7
  have H9 : Hid (Below w.heap.size w w7 ∧ lb < w7.heap.size ∧ Seg w7 lb lo k (fun x => u64 (g.L (J' i) (S i) x)) ∧ ub < w7.heap.size ∧ Seg w7 ub uo k (fun x => u64 (g.U (J' i) (S i) x))) :=
    ⟨H8.out.1.trans (hb7.mono H8.out.1.size), Nat.lt_of_lt_of_le H8.out.2.1 hb7.size, seg_below H8.out.2.2 H8.out.2.1 hb7, Nat.lt_of_lt_of_le hub hb7.size, seg_below hus hub hb7⟩
  clear HG6 HR6 H8 hus hub hb7
  have hp := HR7.out.pos
  rw [← HV.out.1] at hp
  have HP := hp
  clear hp
  go_wp2_with fail
  refine HP.mono ?_
  clear HP
  rintro e w8 ⟨rfl, hpt, hb8⟩
  have HP8 : Hid (∃ A C, PosT w8 w7.heap.size k I.L J' A C) := hpt
  have HR8 : Hid (Ready w8 B k I J' S X' Y) := HR7.out.below hb8
  have H10 : Hid (Below w7.heap.size w7 w8) := hb8
  clear hpt hb8
  have hq := HR8.out.reach HP8.out hiL
  rw [← HV.out.1, ← HV.out.2.1, ← HV.out.2.2.1, ← HV.out.2.2.2] at hq
  have HQ := hq
  clear hq
  go_wp2_with fail
  refine HQ.mono ?_
  clear HQ
  rintro e w9 ⟨rfl, ⟨sn, hrow, hsn⟩, hb9⟩
  have HR9 : Hid (Ready w9 B k I J' S X' Y) := HR8.out.below hb9
  have H11 : Hid (Below w7.heap.size w7 w9 ∧ ∀ x, x < I.L → (sn x = true ↔ Reach (EdgeP I.L J' S I.bL X' Y) i x)) := ⟨H10.out.trans (hb9.mono H10.out.size), hsn⟩
  have hq := HR9.out.past hrow
  rw [← HV.out.1, ← HV.out.2.1] at hq
  have HQ := hq
  clear hq hrow hsn hb9 HR8 H10 HP8
  go_wp2_with fail
  refine HQ.mono ?_
  clear HQ
  rintro e w10 ⟨rfl, hrow, hb10⟩
  have hbT : Below w7.heap.size w7 w10 := H11.out.1.trans (hb10.mono H11.out.1.size)
  have hk1 := HR9.out.hn1
  have hk2 := HR9.out.hn2
  have hb79 := hbT
  have H12 : Hid (w10.rowIs w9.heap.size 22 k (fun s => Qxb6605249a.u64 (pastTo J' S sn I.L s)) ∧ Below w.heap.size w w10 ∧ Seg w10 lb lo k (fun x => Qxb6605249a.u64 (g.L (J' i) (S i) x)) ∧ Seg w10 ub uo k (fun x => Qxb6605249a.u64 (g.U (J' i) (S i) x)) ∧ lb < w10.heap.size ∧ ub < w10.heap.size) :=
    ⟨hrow, H9.out.1.trans (hbT.mono H9.out.1.size), seg_below H9.out.2.2.1 H9.out.2.1 hbT, seg_below H9.out.2.2.2.2 H9.out.2.2.2.1 hbT, Nat.lt_of_lt_of_le H9.out.2.1 hbT.size, Nat.lt_of_lt_of_le H9.out.2.2.2.1 hbT.size⟩
  have H13 : Hid (∀ x, x < k → g.L (J' i) (S i) x ≤ pastTo J' S sn I.L x ∧ pastTo J' S sn I.L x ≤ g.U (J' i) (S i) x ∧ g.U (J' i) (S i) x ≤ cntTo J' (i + 1) x) := fun x hx => HG7.out.law.bounds HR7.out.hV hiL hkept.out H11.out.2 hx
  have HR10 : Hid (Ready w10 B k I J' S X' Y) := HR9.out.below hb10
  have hmk := run_make_row' (P := Try.prog) 24 22 (.int .u64 0) 8 Try.underlying24 Try.info22 rfl .i64 .i64 k (by omega) (by omega)
  have mk1 := hmk w10
  have hr0 : (w10.alloc (.cells (madeCells #[.int .u64 0] k) 22)).rowIs w10.heap.size 22 k (fun s => Qxb6605249a.u64 (cntTo J' 0 s)) := World.rowIs_made w10 (.int .u64 0) k 22
  have H14 : Hid ((w10.alloc (.cells (madeCells #[.int .u64 0] k) 22)).rowIs w10.heap.size 22 k (fun s => Qxb6605249a.u64 (cntTo J' 0 s)) ∧ Below w10.heap.size w10 (w10.alloc (.cells (madeCells #[.int .u64 0] k) 22))) := ⟨hr0, (Below.refl _ _).alloc (Nat.le_refl _) _⟩
  have HEV : Hid (vs = .slice (some ⟨I.sb, I.so, none⟩) I.L I.sc) := HV.out.2.1
  clear hrow hb10 hbT HR9 H11 H9 HG7 HR7 hkept HV hb79 hr0 hmk
  rw [HEV.out]
  have hiL2 : (i : Int) < (I.L : Int) := by omega
  have hLb := HR10.out.hL
  go_wp2_with fail
  clear mk1
  go_loopg [25] (i + 1) (fun gk t wr => ∃ x : Nat, x + gk = i + 1 ∧ t = .int .i64 x ∧ wr.rowIs w10.heap.size 22 k (fun s => Qxb6605249a.u64 (cntTo J' x s)) ∧ Below w10.heap.size w10 wr)
  case atStart => exact ⟨0, by omega, rfl, H14.out⟩
  case round =>
    clear H14
    obtain ⟨x, hx, rfl, hrow, hbel⟩ := hrel
    by_cases hlt : x < i + 1
    · have hlt' : (x : Int) ≤ (i : Int) := by omega
      have hxL : x < I.L := by omega
      have hxL' : (x : Int) < (I.L : Int) := by omega
      have hxs' : (x : Int) < (sl : Int) := by have := HE.out; omega
      have hR := HR10.out
      have hjn := hR.hV.j x hxL
      have hjn' : (J' x : Int) < (k : Int) := by omega
      have ljb := Nat.lt_of_lt_of_le hR.hI.bJ hR.hB
      have lsb := Nat.lt_of_lt_of_le hR.hI.bS hR.hB
      have c1 : wr.cell? ⟨I.jb, I.jo + x, none⟩ = some (.int .i64 (J' x)) := by rw [hbel.cell (p := ⟨I.jb, I.jo + x, none⟩) ljb]; exact hR.hI.cJ x hxL
      have c2 : wr.cell? ⟨I.sb, I.so + x, none⟩ = some (.int .u64 (S x)) := by rw [hbel.cell (p := ⟨I.sb, I.so + x, none⟩) lsb]; exact hR.hI.cS x hxL
      have c3 := hrow.cell hjn
      have c4 := hrow.frozen (J' x)
      have nj : I.jb ≠ w10.heap.size := by omega
      have ns : I.sb ≠ w10.heap.size := by omega
      have HQ2 : Hid (wr.rowIs w10.heap.size 22 k (fun s => Qxb6605249a.u64 (cntTo J' x s)) ∧ Below w10.heap.size w10 wr ∧ S x = cntTo J' x (J' x) + 1) := ⟨hrow, hbel, hR.hV.s x hxL⟩
      clear hR hrow hbel
      go_wp2_with fail
      go_region
      all_goals
        go_wp2_with fail
        go_roundg (gk - 1)
        case measure => omega
        case rel =>
          refine ⟨x + 1, by omega, by go_num, ?_, ?_⟩
          · refine ((HQ2.out.1.set (J' x) (.int .u64 (S x))).of_block (by first | rfl | simp [World.heap_drewN, World.setCell])).congr fun s hs => ?_
            show (if s = J' x then Value.int .u64 (S x) else Qxb6605249a.u64 _) = Qxb6605249a.u64 _
            rw [cntTo]
            by_cases e : s = J' x
            · subst e
              rw [if_pos rfl, if_pos rfl, HQ2.out.2.2]; rfl
            · rw [if_neg e, if_neg (fun h => e h.symm)]
          · first
            | exact (HQ2.out.2.1.setCell (p := ⟨w10.heap.size, J' x, none⟩) (Nat.le_refl _) _).drew
            | exact below_drewN (HQ2.out.2.1.setCell (p := ⟨w10.heap.size, J' x, none⟩) (Nat.le_refl _) _) _
    · have e : x = i + 1 := by omega
      subst e
      have H15 : Hid (wr.rowIs w10.heap.size 22 k (fun s => Qxb6605249a.u64 (cntTo J' (i + 1) s)) ∧ Below w.heap.size w wr ∧ Seg wr lb lo k (fun x => Qxb6605249a.u64 (g.L (J' i) (S i) x)) ∧ Seg wr ub uo k (fun x => Qxb6605249a.u64 (g.U (J' i) (S i) x)) ∧ wr.rowIs w9.heap.size 22 k (fun s => Qxb6605249a.u64 (pastTo J' S sn I.L s))) :=
        ⟨hrow, H12.out.2.1.trans (hbel.mono H12.out.2.1.size), seg_below H12.out.2.2.1 H12.out.2.2.2.2.1 hbel, seg_below H12.out.2.2.2.1 H12.out.2.2.2.2.2 hbel, H12.out.1.of_block (hbel.block _ H12.out.1.lt)⟩
      obtain ⟨wr0, hwr0⟩ : ∃ v, v = wr := ⟨_, rfl⟩
      rw [← hwr0] at H15 ⊢
      clear hrow hbel H12 HR10 HEV hwr0
      go_wp2_with fail
      go_loopg [26] k (fun gk t wx => ∃ x : Nat, x + gk = k ∧ t = .int .i64 x ∧ ∃ m, wx = wr0.drewN m)
      case atStart => exact ⟨0, by omega, rfl, 0, rfl⟩
      case round =>
        obtain ⟨x, hx, rfl, mm, rfl⟩ := hrel
        by_cases hlt : x < k
        · have hlt' : (x : Int) < (k : Int) := by omega
          have c1 : wr0.cell? ⟨lb, lo + x, none⟩ = some (.int .u64 (g.L (J' i) (S i) x)) := H15.out.2.2.1 x hlt
          have c2 : wr0.cell? ⟨ub, uo + x, none⟩ = some (.int .u64 (g.U (J' i) (S i) x)) := H15.out.2.2.2.1 x hlt
          have c3 : wr0.cell? ⟨w9.heap.size, x, none⟩ = some (.int .u64 (pastTo J' S sn I.L x)) := H15.out.2.2.2.2.cell hlt
          have c4 : wr0.cell? ⟨w10.heap.size, x, none⟩ = some (.int .u64 (cntTo J' (i + 1) x)) := H15.out.1.cell hlt
          have hbd := H13.out x hlt
          obtain ⟨pp, hpp⟩ : ∃ pp, pp = pastTo J' S sn I.L x := ⟨_, rfl⟩
          obtain ⟨cc, hcc⟩ : ∃ cc, cc = cntTo J' (i + 1) x := ⟨_, rfl⟩
          obtain ⟨ll, hll⟩ : ∃ ll, ll = g.L (J' i) (S i) x := ⟨_, rfl⟩
          obtain ⟨uu, huu⟩ : ∃ uu, uu = g.U (J' i) (S i) x := ⟨_, rfl⟩
          rw [← hll] at c1 hbd
          rw [← huu] at c2 hbd
          rw [← hpp] at c3 hbd
          rw [← hcc] at c4 hbd
          have f1 : decide ((pp : Int) < (ll : Int)) = false := by simp; omega
          have f2 : decide ((uu : Int) < (pp : Int)) = false := by simp; omega
          have f3 : decide ((cc : Int) < (uu : Int)) = false := by simp; omega
          have f1n : decide (pp < ll) = false := by simp; omega
          have f2n : decide (uu < pp) = false := by simp; omega
          have f3n : decide (cc < uu) = false := by simp; omega
          clear hpp hcc hll huu hbd
          go_wp2_with fail
          go_quiet (fail)
          go_wp2_with fail
          go_roundg (gk - 1)
          case measure => omega
          case rel => exact ⟨x + 1, by omega, by go_num, mm + nq, by simp⟩
        · have e : x = k := by omega
          subst e
          go_wp2_with fail
          go_ret
          exact ⟨rfl, below_drewN H15.out.2.1 _⟩

end Go.Proofs.Qxb6605249a

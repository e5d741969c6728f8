/-
  THE WALK OF FnAddRecordsExactPast.
-/
import Derived.Test.Qxb6605249aReady
import Derived.BigQuiet
import Derived.Deep.CutRange
import Derived.Deep.DeepCutAuto
set_option linter.unusedVariables false
set_option linter.unusedSimpArgs false
namespace Go.Proofs.Qxb6605249a
open Go.RowKit

set_option maxRecDepth 100000 in
set_option maxHeartbeats 4000000 in
theorem fn3 (n : Int) (keep : Nat) (w : World) (B : Nat) (ja sa ba qa : Option Addr) (jl jc sl sc bl bc ql qc : Nat) (J : Nat → Int) (S : Nat → Nat) (bA : Nat → Option Addr) (bL bC : Nat → Nat) (qA : Nat → Option Addr) (qL qC : Nat → Nat) (X : Nat → Nat → Int) (Y : Nat → Nat → Nat) (ms : Int) (mq : Nat)
    (hA : Arg w B ja sa ba qa jl sl bl ql J S bA bL bC qA qL qC X Y) (hB : B ≤ w.heap.size) :
    Calls Try.prog 3 #[.int .i64 n, .int .u64 keep, .slice ja jl jc, .slice sa sl sc, .slice ba bl bc, .slice qa ql qc, .int .i64 ms, .int .u64 mq] w fun e w' => e = .returned (.bool true) ∧ Below w.heap.size w w' := by
  have HA : Hid (Arg w B ja sa ba qa jl sl bl ql J S bA bL bC qA qL qC X Y) := hA
  clear hA
  go_enter Try.func3, Try.ntmps3
  go_wp2_with fail
  refine (bytes9 w B _ _ _ _ ja sa ba qa jl jc sl sc bl bc ql qc bA qA bL bC qL qC HA.out.cB HA.out.cQ).mono ?_
  rintro e w1 ⟨b1, rfl, m1, hw1⟩
  have H1 : Hid (Below w.heap.size w w1) := by rw [hw1]; exact below_drewN (Below.refl _ _) _
  clear hw1
  cases b1
  case false =>
    go_wp2_with fail
    go_ret
    exact ⟨rfl, H1.out⟩
  go_wp2_with fail
  refine (bytesB1 w1 B ja sa ba qa jl jc sl sc bl bc ql qc bA qA bL bC qL qC (HA.out.below H1.out hB).cB (HA.out.below H1.out hB).cQ).mono ?_
  rintro e w2 ⟨r, rfl, hr, m2, hw2⟩
  have H2 : Hid (Below w.heap.size w w2 ∧ (r ≤ 1048576 → (∀ i, i < bl → bL i ≤ 1048576) ∧ ∀ i, i < ql → qL i ≤ 1048576)) := ⟨by rw [hw2]; exact below_drewN H1.out _, hr⟩
  clear hw2 hr H1
  by_cases hr2 : (1048576 : Int) < (r : Int)
  · go_wp2_with fail
    go_ret
    exact ⟨rfl, H2.out.1⟩
  have H3 : Hid ((∀ i, i < bl → bL i ≤ 1048576) ∧ ∀ i, i < ql → qL i ≤ 1048576) := H2.out.2 (by omega)
  go_wp2_with fail
  refine (shape_any n w2 B ja sa ba qa jl jc sl sc bl bc ql qc J S bA bL bC qA qL qC X Y (HA.out.below H2.out.1 hB) (Nat.le_trans hB H2.out.1.size) H3.out.1 H3.out.2).mono ?_
  rintro e w3 ⟨b3, rfl, hf, hb3⟩
  have H4 : Hid (Below w.heap.size w w3 ∧ (b3 = true → Fits n jl sl bl ql J S bL qL X Y)) := ⟨H2.out.1.trans (hb3.mono H2.out.1.size), hf⟩
  clear hf hb3 H2 hr2
  cases b3
  case false =>
    go_wp2_with fail
    go_ret
    exact ⟨rfl, H4.out.1⟩
  have H5 : Hid (Fits n jl sl bl ql J S bL qL X Y) := H4.out.2 rfl
  have hjl : jl ≤ 4096 := H5.out.2.2.1
  have hsl : sl = jl := H5.out.2.2.2.2.1
  subst hsl
  by_cases hkp : (keep : Int) < (sl : Int)
  · go_wp2_with fail
    go_ret
    exact ⟨rfl, H4.out.1⟩
  go_wp2_with fail
  refine (indexOf_any w3 B ja sa sl jc sc J S ms mq (HA.out.below H4.out.1 hB).cJ (HA.out.below H4.out.1 hB).cS hjl).mono ?_
  rintro e w4 ⟨ih, im, iw⟩
  have H6 : Hid (Below w.heap.size w w4) := by rw [iw]; exact below_drewN H4.out.1 _
  clear iw
  rcases ih with ⟨i, hi, hi1, hi2, rfl⟩ | rfl
  case inr =>
    go_wp2_with fail
    go_ret
    exact ⟨rfl, H6.out⟩
  obtain ⟨k, I, J', X', hnk, e1, e2, e3, e4, e5, hJJ, hR⟩ := ready_of (HA.out.below H6.out hB) (Nat.le_trans hB H6.out.size) H5.out H3.out.1 (by omega) jc sc bc qc
  have HR : Hid (Ready w4 B k I J' S X' Y) := hR
  have hms : ms = (J' i : Int) := by rw [← hi1]; exact hJJ i hi
  subst hnk hi2 hms
  have hiL : i < I.L := by rw [e5]; exact hi
  have HE : Hid (I.L = sl ∧ sl ≤ keep) := ⟨e5, by omega⟩
  rw [← e1, ← e2, ← e3, ← e4]
  have ej := (show Hid (I.js = .slice ja sl jc) from e1)
  clear e1 e2 e3 e4 hR hJJ hi1 H5 H3 e5 HA hkp
  obtain ⟨vj, hvj⟩ : ∃ v, v = I.js := ⟨_, rfl⟩
  obtain ⟨vs, hvs⟩ : ∃ v, v = I.seqs := ⟨_, rfl⟩
  obtain ⟨vb, hvb⟩ : ∃ v, v = I.bs := ⟨_, rfl⟩
  obtain ⟨vq, hvq⟩ : ∃ v, v = I.bq := ⟨_, rfl⟩
  rw [← hvj, ← hvs, ← hvb, ← hvq]
  have HV : Hid (vj = I.js ∧ vs = I.seqs ∧ vb = I.bs ∧ vq = I.bq) := ⟨hvj, hvs, hvb, hvq⟩
  have hb := HR.out.build keep
  rw [← hvj, ← hvs, ← hvb, ← hvq] at hb
  have HB := hb
  clear hb hvj hvs hvb hvq
  go_wp2_with fail
  refine HB.mono ?_
  clear HB
  rintro e w5 ⟨gb, rfl, ⟨g, R, hg⟩, hb5⟩
  have HG : Hid (Grf w5 k keep I J' S X' Y gb g R) := hg
  have HR5 : Hid (Ready w5 B k I J' S X' Y) := HR.out.below hb5
  have H7 : Hid (Below w.heap.size w w5) := H6.out.trans (hb5.mono H6.out.size)
  clear hg hb5 HR H6
  have hkept : Hid (g.first (J' i) ≤ S i) := HG.out.law.kept HR5.out.hV HG.out.ok HG.out.gn HG.out.cnt hiL (.inl (by have := HE.out; omega))
  go_wp2_with fail
  refine (HG.out.lower HR5.out.hV hiL hkept.out).mono ?_
  rintro e w6 ⟨lb, lo, lc, rfl, hlb, hls, hb6⟩
  have HG6 : Hid (Grf w6 k keep I J' S X' Y gb g R) := HG.out.below hb6
  have HR6 : Hid (Ready w6 B k I J' S X' Y) := HR5.out.below hb6
  have H8 : Hid (Below w.heap.size w w6 ∧ lb < w6.heap.size ∧ Seg w6 lb lo k (fun x => u64 (g.L (J' i) (S i) x))) := ⟨H7.out.trans (hb6.mono H7.out.size), Nat.lt_of_lt_of_le hlb hb6.size, seg_below hls hlb hb6⟩
  clear HG HR5 H7 hls hlb hb6
  go_wp2_with fail
  refine (HG6.out.upper HR6.out.hV hiL hkept.out).mono ?_
  rintro e w7 ⟨ub, uo, uc, rfl, hub, hus, hb7⟩
  have HG7 : Hid (Grf w7 k keep I J' S X' Y gb g R) := HG6.out.below hb7
  have HR7 : Hid (Ready w7 B k I J' S X' Y) := HR6.out.below hb7
  have H9 : Hid (Below w.heap.size w w7 ∧ lb < w7.heap.size ∧ Seg w7 lb lo k (fun x => u64 (g.L (J' i) (S i) x)) ∧ ub < w7.heap.size ∧ Seg w7 ub uo k (fun x => u64 (g.U (J' i) (S i) x))) :=
    ⟨H8.out.1.trans (hb7.mono H8.out.1.size), Nat.lt_of_lt_of_le H8.out.2.1 hb7.size, seg_below H8.out.2.2 H8.out.2.1 hb7, Nat.lt_of_lt_of_le hub hb7.size, seg_below hus hub hb7⟩
  clear HG6 HR6 H8 hus hub hb7
  have hp := HR7.out.pos
  rw [← HV.out.1] at hp
  have HP := hp
  clear hp
  go_wp2_with fail
  refine HP.mono ?_
  clear HP
  rintro e w8 ⟨rfl, hpt, hb8⟩
  have HP8 : Hid (∃ A C, PosT w8 w7.heap.size k I.L J' A C) := hpt
  have HR8 : Hid (Ready w8 B k I J' S X' Y) := HR7.out.below hb8
  have H10 : Hid (Below w7.heap.size w7 w8) := hb8
  clear hpt hb8
  have hq := HR8.out.reach HP8.out hiL
  rw [← HV.out.1, ← HV.out.2.1, ← HV.out.2.2.1, ← HV.out.2.2.2] at hq
  have HQ := hq
  clear hq
  go_wp2_with fail
  refine HQ.mono ?_
  clear HQ
  rintro e w9 ⟨rfl, ⟨sn, hrow, hsn⟩, hb9⟩
  have HR9 : Hid (Ready w9 B k I J' S X' Y) := HR8.out.below hb9
  have H11 : Hid (Below w7.heap.size w7 w9 ∧ ∀ x, x < I.L → (sn x = true ↔ Reach (EdgeP I.L J' S I.bL X' Y) i x)) := ⟨H10.out.trans (hb9.mono H10.out.size), hsn⟩
  have hq := HR9.out.past hrow
  rw [← HV.out.1, ← HV.out.2.1] at hq
  have HQ := hq
  clear hq hrow hsn hb9 HR8 H10 HP8
  go_wp2_with fail
  refine HQ.mono ?_
  clear HQ
  rintro e w10 ⟨rfl, hrow, hb10⟩
  have hbT : Below w7.heap.size w7 w10 := H11.out.1.trans (hb10.mono H11.out.1.size)
  have hk1 := HR9.out.hn1
  have hk2 := HR9.out.hn2
  have H12 : Hid (w10.rowIs w9.heap.size 22 k (fun s => Qxb6605249a.u64 (pastTo J' S sn I.L s)) ∧ Below w.heap.size w w10 ∧ Seg w10 lb lo k (fun x => Qxb6605249a.u64 (g.L (J' i) (S i) x)) ∧ Seg w10 ub uo k (fun x => Qxb6605249a.u64 (g.U (J' i) (S i) x))) :=
    ⟨hrow, H9.out.1.trans (hbT.mono H9.out.1.size), seg_below H9.out.2.2.1 H9.out.2.1 hbT, seg_below H9.out.2.2.2.2 H9.out.2.2.2.1 hbT⟩
  have H13 : Hid (∀ x, x < k → g.L (J' i) (S i) x = pastTo J' S sn I.L x ∧ g.U (J' i) (S i) x = pastTo J' S sn I.L x) := fun x hx => by
    have h1 := HG7.out.law.bounds HR7.out.hV hiL hkept.out H11.out.2 hx
    have h2 := (HG7.out.law.ex (by have := HE.out; omega)).2 i hiL x hx
    omega
  clear hrow hb10 hbT HR9 H11 H9 HG7 HR7 hkept HV HE
  go_wp2_with fail
  go_loopg [22] k (fun gk t wr => ∃ x : Nat, x + gk = k ∧ t = .int .i64 x ∧ ∃ m, wr = w10.drewN m)
  case atStart => exact ⟨0, by omega, rfl, 0, rfl⟩
  case round =>
    obtain ⟨x, hx, rfl, mm, rfl⟩ := hrel
    by_cases hlt : x < k
    · have hlt' : (x : Int) < (k : Int) := by omega
      have c1 : w10.cell? ⟨lb, lo + x, none⟩ = some (.int .u64 (g.L (J' i) (S i) x)) := H12.out.2.2.1 x hlt
      have c2 : w10.cell? ⟨ub, uo + x, none⟩ = some (.int .u64 (g.U (J' i) (S i) x)) := H12.out.2.2.2 x hlt
      have c3 : w10.cell? ⟨w9.heap.size, x, none⟩ = some (.int .u64 (pastTo J' S sn I.L x)) := H12.out.1.cell hlt
      rw [(H13.out x hlt).1] at c1
      rw [(H13.out x hlt).2] at c2
      obtain ⟨pp, hpp⟩ : ∃ pp, pp = pastTo J' S sn I.L x := ⟨_, rfl⟩
      rw [← hpp] at c1 c2 c3
      clear hpp
      have dd : ((pp : Int) != (pp : Int)) = false := by simp
      go_wp2_with fail
      go_quiet (fail)
      go_wp2_with fail
      go_roundg (gk - 1)
      case measure => omega
      case rel => exact ⟨x + 1, by omega, by go_num, mm + nq, by simp⟩
    · have e : x = k := by omega
      subst e
      go_wp2_with fail
      go_ret
      exact ⟨rfl, below_drewN H12.out.2.1 _⟩

end Go.Proofs.Qxb6605249a

/-
  THE WALK OF zzReach.
-/
import Derived.Test.Qxb6605249aReachParts
import Derived.BigQuiet
import Derived.Deep.CutRange
import Derived.Deep.DeepCutAuto
set_option linter.unusedVariables false
set_option linter.unusedSimpArgs false
namespace Go.Proofs.Qxb6605249a
open Go.RowKit

theorem RSt.src2 {wr : World} {a : Addr} {v : Value} (p : Nat) : Src Try.prog 1 23 (.slice (some ⟨wr.heap.size, 0, none⟩) 1 1) 1 [.int .i64 (p : Int)] ((wr.setCell a v).alloc (.cells #[.int .i64 (p : Int)] 3)) := by
  have := RSt.src (w := wr.setCell a v) p
  rwa [show (wr.setCell a v).heap.size = wr.heap.size from by simp [World.setCell]] at this

/-- In the midst of the search: node i's own row, and its first k names, are seen to. -/
structure Mid (w : World) (L frm : Nat) (J S : Nat → Nat) (m : Nat → Nat) (X Y : Nat → Nat → Nat) (i k gk : Nat) (wr : World) (sn : Nat → Bool) (b o len cap : Nat) (f : Nat → Nat) : Prop where
  st : RSt w L wr sn b o len cap f
  rl : RL L frm (EdgeP L J S m X Y) sn len f i
  e1 : 1 < S i → sn (posTo J L (J i) (S i - 2)) = true
  e2 : ∀ x, x < k → sn (posTo J L (X i x) (Y i x - 1)) = true
  si : sn i = true
  lt : 2 * unseen sn L + len < gk

theorem Mid.drewN {w : World} {L frm : Nat} {J S : Nat → Nat} {m : Nat → Nat} {X Y : Nat → Nat → Nat} {i k gk : Nat} {wr : World} {sn : Nat → Bool} {b o len cap : Nat} {f : Nat → Nat} (h : Mid w L frm J S m X Y i k gk wr sn b o len cap f) (n : Nat) :
    Mid w L frm J S m X Y i k gk (wr.drewN n) sn b o len cap f := { h with st := rst_drewN h.st n }

theorem Valid.pos1 {n L : Nat} {J S m : Nat → Nat} {X Y : Nat → Nat → Nat} (h : Valid n L J S m X Y) {i : Nat} (hi : i < L) (h1 : 1 < S i) :
    S i - 2 < cntTo J L (J i) ∧ posTo J L (J i) (S i - 2) < L := by
  have a := h.s i hi
  have b := cntTo_mono J (J i) i L (by omega)
  have c : S i - 2 < cntTo J L (J i) := by omega
  exact ⟨c, (posTo_law J _ _ L c).1⟩

theorem Valid.pos2 {n L : Nat} {J S m : Nat → Nat} {X Y : Nat → Nat → Nat} (h : Valid n L J S m X Y) {i k : Nat} (hi : i < L) (hk : k < m i) :
    Y i k - 1 < cntTo J L (X i k) ∧ posTo J L (X i k) (Y i k - 1) < L := by
  have a := h.x i hi k hk
  have b := cntTo_mono J (X i k) i L (by omega)
  have c : Y i k - 1 < cntTo J L (X i k) := by omega
  exact ⟨c, (posTo_law J _ _ L c).1⟩

theorem Valid.edge {n L : Nat} {J S m : Nat → Nat} {X Y : Nat → Nat → Nat} (h : Valid n L J S m X Y) (i p : Nat) (hi : i < L) (e : EdgeP L J S m X Y i p) : p < L := by
  rcases e with ⟨h1, rfl⟩ | ⟨k, hk, rfl⟩
  · exact (h.pos1 hi h1).2
  · exact (h.pos2 hi hk).2

set_option maxRecDepth 100000 in
set_option maxHeartbeats 4000000 in
theorem reach_any (I : Inp) (n B : Nat) (J S : Nat → Nat) (X Y : Nat → Nat → Nat) (w : World) (hI : In w B I (fun i => (J i : Int)) S (fun i k => (X i k : Int)) Y) (hB : B ≤ w.heap.size)
    (hV : Valid n I.L J S I.bL X Y) (hq : ∀ i, i < I.L → I.qL i = I.bL i) (hm : ∀ i, i < I.L → I.bL i ≤ 1048576) (hn2 : n ≤ 4096) (hL : I.L ≤ 4096)
    (pb : Nat) (A : Nat → Option Addr) (C : Nat → Nat) (hP : PosT w pb n I.L J A C) (frm : Nat) (hf : frm < I.L) :
    Calls Try.prog 17 #[I.js, I.seqs, I.bs, I.bq, .slice (some ⟨pb, 0, none⟩) n n, .int .i64 frm] w fun e w' => e = .returned (.slice (some ⟨w.heap.size, 0, none⟩) I.L I.L) ∧
      (∃ sn : Nat → Bool, w'.rowIs w.heap.size 4 I.L (fun i => .bool (sn i)) ∧ ∀ i, i < I.L → (sn i = true ↔ Reach (EdgeP I.L J S I.bL X Y) frm i)) ∧ Below w.heap.size w w' := by
  obtain ⟨L, hLL⟩ : ∃ L, L = I.L := ⟨_, rfl⟩
  unfold Inp.js Inp.seqs Inp.bs Inp.bq
  have hcJ := hI.cJ
  have hcS := hI.cS
  have hcB := hI.cB
  have hcQ := hI.cQ
  have hcX := hI.cX
  have hcY := hI.cY
  rw [← hLL] at hV hq hm hL hP hf hcJ hcS hcB hcQ hcX hcY ⊢
  clear hLL
  have mk1 := run_make_marks L hL w
  obtain ⟨w1, hw1⟩ : ∃ w1, w1 = w.alloc (.cells (madeCells #[.bool false] L) 4) := ⟨_, rfl⟩
  rw [← hw1] at mk1
  have mk2 := run_make_stack L hL w1
  have s1 : w1.heap.size = w.heap.size + 1 := by rw [hw1]; simp
  rw [s1] at mk2
  obtain ⟨w2, hw2⟩ : ∃ w2, w2 = w1.alloc (.cells (madeCells #[.int .i64 0] L) 3) := ⟨_, rfl⟩
  rw [← hw2] at mk2
  have hst : RSt w L w2 (fun _ => false) (w.heap.size + 1) 0 0 L (fun _ => 0) := by rw [hw2, hw1]; exact rst_start w L
  have d1 := hst.row.cell hf
  have d2 := hst.row.frozen frm
  have hf' : (frm : Int) < (L : Int) := by omega
  have HST : Hid (RSt w L w2 (fun _ => false) (w.heap.size + 1) 0 0 L (fun _ => 0)) := hst
  have hap := hst.appv frm
  clear hst hw1 hw2 s1
  go_enter Try.func17, Try.ntmps17
  go_wp2_with (at_builtin; refine wpList_append_app rfl (.tmp 28) (.tmp 30) 23 rfl 3 (.int .i64 0) 8 Try.underlying23 Try.info3 rfl (.slice (some ⟨w.heap.size + 1, 0, none⟩) 0 L) rfl 0 (fun k => .int .i64 ((fun _ => 0) k : Nat)) hap _ rfl 1 [.int .i64 (frm : Int)] (RSt.src2 frm) (by omega) (by omega) (by omega) ?_; intro b1 o1 cp1 w3 hA1 hown1 hg1 hlt1)
  have HS3 : Hid (RSt w L w3 (mark (fun _ => false) frm) b1 o1 1 cp1 (fun k => if k < 0 then (fun _ => 0) k else frm)) := rst_push HST.out hf hA1 hown1 hg1
  clear hA1 hown1 hg1 hap d1 d2 HST mk1 mk2
  go_wp2_with fail
  go_loopg [14] (2 * L + 1) (fun gk t wr => ∃ sn b o len cap f, t = .slice (some ⟨b, o, none⟩) len cap ∧ RSt w L wr sn b o len cap f ∧ RL L frm (EdgeP L J S I.bL X Y) sn len f L ∧ 2 * unseen sn L + len ≤ gk)
  case atStart =>
    have := RL.start (E := EdgeP L J S I.bL X Y) hf
    exact ⟨_, b1, o1, 1, cp1, _, rfl, HS3.out, this, by have := this.few; have := unseen_le (mark (fun _ => false) frm) L; omega⟩
  case round =>
    obtain ⟨sn, b, o, len, cap, f, rfl, hst, hrl, hme⟩ := hrel
    clear HS3
    rcases Nat.eq_zero_or_pos len with h0 | hpos
    · subst h0
      have HX : Hid (RSt w L wr sn b o 0 cap f ∧ ∀ i, i < L → (sn i = true ↔ Reach (EdgeP L J S I.bL X Y) frm i)) := ⟨hst, hrl.done hf (fun i p => hV.edge i p)⟩
      clear hst hrl hme hcJ hcS hcB hcQ hcX hcY hV hq hm hI
      go_wp2_with fail
      go_ret
      exact ⟨rfl, ⟨sn, HX.out.1.row, HX.out.2⟩, HX.out.1.bel⟩
    · obtain ⟨l, rfl⟩ : ∃ l, len = l + 1 := ⟨len - 1, by omega⟩
      obtain ⟨i, hi⟩ : ∃ i, i = f l := ⟨_, rfl⟩
      have hs := hrl.st l (by omega)
      have hfew := hrl.few
      have hrl2 := hrl.pop
      have t1 := hst.app.seg l (by omega)
      have hle := hst.app.le
      rw [← hi] at hs hrl2 t1
      have hiL := hs.1
      have bl := hst.bel
      have c1 : wr.cell? ⟨I.jb, I.jo + i, none⟩ = some (.int .i64 (J i)) := by rw [bl.cell (p := ⟨I.jb, I.jo + i, none⟩) (Nat.lt_of_lt_of_le hI.bJ hB)]; exact hcJ i hiL
      have c2 : wr.cell? ⟨I.sb, I.so + i, none⟩ = some (.int .u64 (S i)) := by rw [bl.cell (p := ⟨I.sb, I.so + i, none⟩) (Nat.lt_of_lt_of_le hI.bS hB)]; exact hcS i hiL
      have hm0 : Hid (RSt w L wr sn b o l cap f ∧ RL L frm (EdgeP L J S I.bL X Y) sn l f i ∧ sn i = true ∧ 2 * unseen sn L + l < gk) := ⟨{ hst with app := ⟨hst.app.blk, by omega, fun k hk => hst.app.seg k (by omega)⟩ }, hrl2, hs.2, by omega⟩
      have hiL' : (i : Int) < (L : Int) := by omega
      have hSi := hV.s i hiL
      have hSb := cntTo_le J i (J i)
      have hSb2 : S i ≤ 4097 := by omega
      clear hSi hSb hst hrl hrl2 hs hi
      go_upto_if 50 with fail
      obtain ⟨G, hG⟩ : ∃ G, G = gk := ⟨_, rfl⟩
      subst hG
      go_cut [14, 16] from 32 to 117 (fun t _ wc => ∃ sn b o len cap f, t = .slice (some ⟨b, o, none⟩) len cap ∧ Mid w L frm J S I.bL X Y i 0 G wc sn b o len cap f)
      case first =>
        by_cases h1 : 1 < S i
        · obtain ⟨s2, hs2⟩ : ∃ s2, S i = s2 + 2 := ⟨S i - 2, by omega⟩
          have hp := hV.pos1 hiL h1
          have hjn := hV.j i hiL
          have hjn' : (J i : Int) < (n : Int) := by omega
          obtain ⟨ab, ao, hA, hab, hcell⟩ := hP.a (J i) hjn (by omega)
          have c3 : wr.cell? ⟨pb, J i, none⟩ = some (.slice (A (J i)) (cntTo J L (J i)) (C (J i))) := by rw [bl.cell (p := ⟨pb, J i, none⟩) hP.lt]; exact hP.c _ hjn
          have c4 : wr.cell? ⟨ab, ao + (S i - 2), none⟩ = some (.int .i64 (posTo J L (J i) (S i - 2))) := by rw [bl.cell (p := ⟨ab, ao + (S i - 2), none⟩) hab]; exact hcell _ hp.1
          have hre : Reach (EdgeP L J S I.bL X Y) frm (posTo J L (J i) (S i - 2)) := (hm0.out.2.1.re i hiL hm0.out.2.2.1).step (.inl ⟨h1, rfl⟩)
          have e0 : S i - 2 = s2 := by omega
          rw [hA] at c3
          have hp1 := hp.1
          have hp2 := hp.2
          have HE : Hid (S i - 2 = s2 ∧ Reach (EdgeP L J S I.bL X Y) frm (posTo J L (J i) (S i - 2))) := ⟨e0, hre⟩
          rw [e0] at c4 hp1 hp2
          have r1 := hm0.out.1.row.cell hp2
          have r2 := hm0.out.1.row.frozen (posTo J L (J i) s2)
          obtain ⟨p, hpp⟩ : ∃ p, p = posTo J L (J i) s2 := ⟨_, rfl⟩
          rw [← hpp] at c4 hp2 r1 r2
          obtain ⟨cn, hcn⟩ : ∃ cn, cn = cntTo J L (J i) := ⟨_, rfl⟩
          rw [← hcn] at c3 hp1
          have c2' : wr.cell? ⟨I.sb, I.so + i, none⟩ = some (.int .u64 ((s2 : Int) + 2)) := by rw [c2, hs2]; rfl
          rw [show ((S i : Nat) : Int) = (s2 : Int) + 2 from by omega]
          have hp1' : (s2 : Int) < (cn : Int) := by omega
          have hp2' : (p : Int) < (L : Int) := by omega
          have hs2b : s2 ≤ 4095 := by omega
          have HPP : Hid (p = posTo J L (J i) s2) := hpp
          clear hp hcell hre e0 hs2 h1 hA hpp hcn c2 hSb2 hcJ hcS hcB hcQ hcX hcY hV hq hm hI hjn hab hP bl t1
          have dg : decide ((1 : Int) < (s2 : Int) + 2) = true := by simp; omega
          cases hsn : sn p with
          | true =>
            rw [hsn] at r1
            have HSN : Hid (sn p = true) := hsn
            clear hsn
            go_wp2_with fail
            go_quiet (fail)
            go_wp2_with fail
            go_meet
            case rel =>
              obtain ⟨a1, a2, a3, a4⟩ := hm0.out
              exact ⟨sn, b, o, l, cap, f, rfl, { st := rst_drewN a1 _, rl := a2, e1 := fun _ => by rw [HE.out.1, ← HPP.out]; exact HSN.out, e2 := fun x hx => by omega, si := a3, lt := a4 }⟩
          | false =>
            rw [hsn] at r1
            have HSN : Hid (sn p = false) := hsn
            clear hsn
            go_wp2_with fail
            go_quiet (fail)
            have hsd := rst_drewN hm0.out.1 nq
            obtain ⟨wd, hwd⟩ : ∃ wd, wd = wr.drewN nq := ⟨_, rfl⟩
            rw [← hwd] at hsd ⊢
            have r1 := hsd.row.cell hp2
            rw [HSN.out] at r1
            have r2 := hsd.row.frozen p
            have hap := hsd.appv p
            have HSD : Hid (RSt w L wd sn b o l cap f) := hsd
            clear hwd hsd
            go_wp2_with (at_builtin; refine wpList_append_app rfl (.tmp 73) (.tmp 75) 23 rfl 3 (.int .i64 0) 8 Try.underlying23 Try.info3 rfl (.slice (some ⟨b, o, none⟩) l cap) rfl l (fun k => .int .i64 (f k)) hap _ rfl 1 [.int .i64 (p : Int)] (RSt.src2 p) (by omega) (by omega) (by omega) ?_; intro b1 o1 cp1 w3 hA1 hown1 hg1 hlt1)
            go_wp2_with fail
            go_meet
            case rel =>
              obtain ⟨a1, a2, a3, a4⟩ := hm0.out
              have hr := HE.out
              rw [hr.1, ← HPP.out] at hr
              have hu := unseen_mark sn p HSN.out L hp2
              exact ⟨_, b1, o1, l + 1, cp1, _, rfl, { st := rst_push HSD.out hp2 hA1 hown1 hg1, rl := a2.push hp2 HSN.out hr.2, e1 := fun _ => by rw [HE.out.1, ← HPP.out]; simp [mark], e2 := fun x hx => by omega, si := mark_keeps a3, lt := by omega }⟩
        · have h1' : ¬ (1 : Int) < (S i : Int) := by omega
          have dg : decide ((1 : Int) < (S i : Int)) = false := by simp; omega
          have HN : Hid (¬ 1 < S i) := h1
          clear h1 hcJ hcS hcB hcQ hcX hcY hV hq hm hI hP bl t1
          go_wp2_with fail
          go_meet
          case rel =>
            obtain ⟨a1, a2, a3, a4⟩ := hm0.out
            exact ⟨sn, b, o, l, cap, f, rfl, { st := a1, rl := a2, e1 := fun h => absurd h HN.out, e2 := fun x hx => by omega, si := a3, lt := a4 }⟩
      case rest =>
        obtain ⟨sn1, b1, o1, len1, cap1, f1, rfl, hmid⟩ := hcut
        have HM : Hid (Mid w L frm J S I.bL X Y i 0 G wc sn1 b1 o1 len1 cap1 f1) := hmid
        clear hmid hm0 c1 c2 t1 bl
        have hmi := hm i hiL
        go_wp2_with fail
        go_loopg [14, 17] (I.bL i) (fun gk t z wr => ∃ sn b o len cap f, ∃ k : Nat, k + gk = I.bL i ∧ z = .int .i64 k ∧ t = .slice (some ⟨b, o, none⟩) len cap ∧ Mid w L frm J S I.bL X Y i k G wr sn b o len cap f)
        case atStart => exact ⟨sn1, b1, o1, len1, cap1, f1, 0, by omega, rfl, rfl, HM.out⟩
        case round =>
          obtain ⟨sn, b, o, len, cap, f, k, hk, rfl, rfl, hmid⟩ := hrel
          clear HM
          have bl := hmid.st.bel
          have c1 : wr.cell? ⟨I.bb, I.bo + i, none⟩ = some (.slice (I.bA i) (I.bL i) (I.bC i)) := by rw [bl.cell (p := ⟨I.bb, I.bo + i, none⟩) (Nat.lt_of_lt_of_le hI.bB hB)]; exact hcB i hiL
          by_cases hlt : k < I.bL i
          · have hlt' : (k : Int) < (I.bL i : Int) := by omega
            obtain ⟨xb, xo, hxa, hxb, hxc⟩ := hcX i hiL (by omega)
            obtain ⟨yb, yo, hya, hyb, hyc⟩ := hcY i hiL (by rw [hq i hiL]; omega)
            have c2 : wr.cell? ⟨I.qb, I.qo + i, none⟩ = some (.slice (I.qA i) (I.qL i) (I.qC i)) := by rw [bl.cell (p := ⟨I.qb, I.qo + i, none⟩) (Nat.lt_of_lt_of_le hI.bQ hB)]; exact hcQ i hiL
            have c3 : wr.cell? ⟨xb, xo + k, none⟩ = some (.int .i64 (X i k)) := by rw [bl.cell (p := ⟨xb, xo + k, none⟩) (Nat.lt_of_lt_of_le hxb hB)]; exact hxc k hlt
            have c4 : wr.cell? ⟨yb, yo + k, none⟩ = some (.int .u64 (Y i k)) := by rw [bl.cell (p := ⟨yb, yo + k, none⟩) (Nat.lt_of_lt_of_le hyb hB)]; exact hyc k (by rw [hq i hiL]; exact hlt)
            rw [hxa] at c1
            rw [hya, hq i hiL] at c2
            have hv := hV.x i hiL k hlt
            have hp := hV.pos2 hiL hlt
            have hxn' : (X i k : Int) < (n : Int) := by omega
            obtain ⟨y1, hy1⟩ : ∃ y1, Y i k = y1 + 1 := ⟨Y i k - 1, by omega⟩
            obtain ⟨ab, ao, hA, hab, hcell⟩ := hP.a (X i k) hv.1 (by omega)
            have c5 : wr.cell? ⟨pb, X i k, none⟩ = some (.slice (A (X i k)) (cntTo J L (X i k)) (C (X i k))) := by rw [bl.cell (p := ⟨pb, X i k, none⟩) hP.lt]; exact hP.c _ hv.1
            have c6 : wr.cell? ⟨ab, ao + (Y i k - 1), none⟩ = some (.int .i64 (posTo J L (X i k) (Y i k - 1))) := by rw [bl.cell (p := ⟨ab, ao + (Y i k - 1), none⟩) hab]; exact hcell _ hp.1
            have hre : Reach (EdgeP L J S I.bL X Y) frm (posTo J L (X i k) (Y i k - 1)) := (hmid.rl.re i hiL hmid.si).step (.inr ⟨k, hlt, rfl⟩)
            rw [hA] at c5
            have e0 : Y i k - 1 = y1 := by omega
            have hp1 := hp.1
            have hp2 := hp.2
            have HE : Hid (Y i k - 1 = y1 ∧ Reach (EdgeP L J S I.bL X Y) frm (posTo J L (X i k) (Y i k - 1))) := ⟨e0, hre⟩
            rw [e0] at c6 hp1 hp2
            have hcnt := cntTo_le J L (X i k)
            obtain ⟨p, hpp⟩ : ∃ p, p = posTo J L (X i k) y1 := ⟨_, rfl⟩
            rw [← hpp] at c6 hp2
            obtain ⟨cn, hcn⟩ : ∃ cn, cn = cntTo J L (X i k) := ⟨_, rfl⟩
            rw [← hcn] at c5 hp1 hcnt
            have c4' : wr.cell? ⟨yb, yo + k, none⟩ = some (.int .u64 ((y1 : Int) + 1)) := by rw [c4, hy1]; rfl
            have hp1' : (y1 : Int) < (cn : Int) := by omega
            have hp2' : (p : Int) < (L : Int) := by omega
            have hy1b : y1 ≤ 4096 := by omega
            have HPP : Hid (p = posTo J L (X i k) y1) := hpp
            have r1 := hmid.st.row.cell hp2
            have HMD : Hid (Mid w L frm J S I.bL X Y i k G wr sn b o len cap f) := hmid
            have hfew := hmid.rl.few
            clear hp hcell hre e0 hy1 hA hpp hcn c4 hcJ hcS hcB hcQ hcX hcY hV hq hm hI hab hP bl hxa hya hxc hyc hmid hv
            cases hsn : sn p with
            | true =>
              rw [hsn] at r1
              have HSN : Hid (sn p = true) := hsn
              clear hsn
              go_wp2_with fail
              go_quiet (fail)
              go_wp2_with fail
              go_roundg (gk - 1)
              case measure => omega
              case rel =>
                have h := HMD.out.drewN nq
                have h2 : ∀ x, x < k + 1 → sn (posTo J L (X i x) (Y i x - 1)) = true := fun x hx => by
                  by_cases e : x = k
                  · rw [e, HE.out.1, ← HPP.out]; exact HSN.out
                  · exact h.e2 x (by omega)
                exact ⟨sn, b, o, len, cap, f, k + 1, by omega, by go_num, rfl, { h with e2 := h2 }⟩
            | false =>
              rw [hsn] at r1
              have HSN : Hid (sn p = false) := hsn
              clear hsn
              go_wp2_with fail
              go_quiet (fail)
              have hsd := HMD.out.drewN nq
              obtain ⟨wd, hwd⟩ : ∃ wd, wd = wr.drewN nq := ⟨_, rfl⟩
              rw [← hwd] at hsd ⊢
              have r1 := hsd.st.row.cell hp2
              rw [HSN.out] at r1
              have r2 := hsd.st.row.frozen p
              have hap := hsd.st.appv p
              have HSD : Hid (Mid w L frm J S I.bL X Y i k G wd sn b o len cap f) := hsd
              clear hwd hsd
              go_wp2_with (at_builtin; refine wpList_append_app rfl (.tmp 114) (.tmp 116) 23 rfl 3 (.int .i64 0) 8 Try.underlying23 Try.info3 rfl (.slice (some ⟨b, o, none⟩) len cap) rfl len (fun k => .int .i64 (f k)) hap _ rfl 1 [.int .i64 (p : Int)] (RSt.src2 p) (by omega) (by omega) (by omega) ?_; intro b2 o2 cp2 w4 hA1 hown1 hg1 hlt1)
              go_wp2_with fail
              go_roundg (gk - 1)
              case measure => omega
              case rel =>
                have h := HSD.out
                have hr := HE.out
                rw [hr.1, ← HPP.out] at hr
                have hu := unseen_mark sn p HSN.out L hp2
                have hlt3 := h.lt
                have h2 : ∀ x, x < k + 1 → mark sn p (posTo J L (X i x) (Y i x - 1)) = true := fun x hx => by
                  by_cases e : x = k
                  · rw [e, HE.out.1, ← HPP.out]; simp [mark]
                  · exact mark_keeps (h.e2 x (by omega))
                exact ⟨_, b2, o2, len + 1, cp2, _, k + 1, by omega, by go_num, rfl, { st := rst_push h.st hp2 hA1 hown1 hg1, rl := h.rl.push hp2 HSN.out hr.2, e1 := fun q => mark_keeps (h.e1 q), e2 := h2, si := mark_keeps h.si, lt := by omega }⟩
          · have e : k = I.bL i := by omega
            have HMD : Hid (Mid w L frm J S I.bL X Y i (I.bL i) G wr sn b o len cap f) := by rw [← e]; exact hmid
            have hlt' : ¬ (k : Int) < (I.bL i : Int) := by omega
            clear hmid e hcJ hcS hcB hcQ hcX hcY hV hq hm hI hP bl
            go_wp2_with fail
            go_roundg (G - 1)
            case measure => have := HMD.out.lt; omega
            case rel =>
              have h := HMD.out
              have hlt3 := h.lt
              exact ⟨sn, b, o, len, cap, f, rfl, h.st, h.rl.leave (fun p hp => by
                rcases hp with ⟨h1, rfl⟩ | ⟨x, hx, rfl⟩
                · exact h.e1 h1
                · exact h.e2 x hx), by omega⟩

end Go.Proofs.Qxb6605249a

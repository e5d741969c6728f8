/-
  THE WALK OF zzValidScript.
-/
import Derived.Test.Qxb6605249aInput
import Derived.BigQuiet
set_option linter.unusedVariables false
set_option linter.unusedSimpArgs false
namespace Go.Proofs.Qxb6605249a
open Go.RowKit

/-- The i-th delivery is in add's domain, over integers. -/
def VI (n : Nat) (J : Nat → Int) (S : Nat → Nat) (bL qL : Nat → Nat) (X : Nat → Nat → Int) (Y : Nat → Nat → Nat) (i : Nat) : Prop :=
  0 ≤ J i ∧ J i < n ∧ bL i = qL i ∧ (∀ k, k < bL i → 0 ≤ X i k ∧ X i k < n ∧ 1 ≤ Y i k ∧ Y i k ≤ cntTo (fun i => (J i).toNat) i (X i k).toNat) ∧ S i = cntTo (fun i => (J i).toNat) i (J i).toNat + 1

/-- It answers a bool; where that is true, the script is valid. -/
def VQ (w : World) (P : Prop) (e : Ending) (w' : World) : Prop := ∃ b, e = .returned (.bool b) ∧ (b = true → P) ∧ Below w.heap.size w w'

theorem vq_no {w w' : World} {P : Prop} (h : Below w.heap.size w w') : VQ w P (.returned (.bool false)) w' := ⟨false, rfl, (fun h => by simp at h), h⟩

set_option maxRecDepth 100000 in
set_option maxHeartbeats 2000000 in
theorem valid_eq (I : Inp) (n B : Nat) (J : Nat → Int) (S : Nat → Nat) (X : Nat → Nat → Int) (Y : Nat → Nat → Nat) (w : World) (hI : In w B I J S X Y) (hB : B ≤ w.heap.size) (hn : n ≤ 4096) (hL : I.L ≤ 4096) (hm : ∀ i, i < I.L → I.bL i ≤ 1048576) (hm2 : ∀ i, i < I.L → I.qL i ≤ 1048576) :
    Calls Try.prog 29 #[.int .i64 n, I.js, I.seqs, I.bs, I.bq] w fun e w' => VQ w (∀ i, i < I.L → VI n J S I.bL I.qL X Y i) e w' := by
  obtain ⟨L, hLL⟩ : ∃ L, L = I.L := ⟨_, rfl⟩
  unfold Inp.js Inp.seqs Inp.bs Inp.bq
  have hcJ := hI.cJ
  have hcS := hI.cS
  have hcB := hI.cB
  have hcQ := hI.cQ
  have hcX := hI.cX
  have hcY := hI.cY
  rw [← hLL] at hL hm hm2 hcJ hcS hcB hcQ hcX hcY ⊢
  clear hLL
  have hmk := run_make_row' (P := Try.prog) 24 22 (.int .u64 0) 8 Try.underlying24 Try.info22 rfl .i64 .i64 n (by omega) (by omega)
  have mk1 := hmk w
  clear hmk
  have hr0 : (w.alloc (.cells (madeCells #[.int .u64 0] n) 22)).rowIs w.heap.size 22 n (fun s => Qxb6605249a.u64 (cntTo (fun i => (J i).toNat) 0 s)) := World.rowIs_made w (.int .u64 0) n 22
  have hb0 : Below w.heap.size w (w.alloc (.cells (madeCells #[.int .u64 0] n) 22)) := (Below.refl _ _).alloc (Nat.le_refl _) _
  have H0 : Hid ((w.alloc (.cells (madeCells #[.int .u64 0] n) 22)).rowIs w.heap.size 22 n (fun s => Qxb6605249a.u64 (cntTo (fun i => (J i).toNat) 0 s)) ∧ Below w.heap.size w (w.alloc (.cells (madeCells #[.int .u64 0] n) 22))) := ⟨hr0, hb0⟩
  clear hr0 hb0
  go_enter Try.func29, Try.ntmps29
  go_wp2
  clear mk1
  go_loopg [12] L (fun gk t wr => ∃ i : Nat, i + gk = L ∧ t = .int .i64 i ∧ wr.rowIs w.heap.size 22 n (fun s => Qxb6605249a.u64 (cntTo (fun i => (J i).toNat) i s)) ∧ Below w.heap.size w wr ∧ ∀ x, x < i → VI n J S I.bL I.qL X Y x)
  case atStart => exact ⟨0, by omega, rfl, H0.out.1, H0.out.2, fun x hx => by omega⟩
  case round =>
    obtain ⟨i, hi, rfl, hrow, hbel, hall⟩ := hrel
    clear H0
    by_cases hlt : i < L
    · have hlt' : (i : Int) < (L : Int) := by omega
      have lB := Nat.lt_of_lt_of_le hI.bB hB
      have lQ := Nat.lt_of_lt_of_le hI.bQ hB
      have lS := Nat.lt_of_lt_of_le hI.bS hB
      have c1 : wr.cell? ⟨I.jb, I.jo + i, none⟩ = some (.int .i64 (J i)) := by rw [hbel.cell (p := ⟨I.jb, I.jo + i, none⟩) (Nat.lt_of_lt_of_le hI.bJ hB)]; exact hcJ i hlt
      have c2 : wr.cell? ⟨I.bb, I.bo + i, none⟩ = some (.slice (I.bA i) (I.bL i) (I.bC i)) := by rw [hbel.cell (p := ⟨I.bb, I.bo + i, none⟩) lB]; exact hcB i hlt
      have c3 : wr.cell? ⟨I.qb, I.qo + i, none⟩ = some (.slice (I.qA i) (I.qL i) (I.qC i)) := by rw [hbel.cell (p := ⟨I.qb, I.qo + i, none⟩) lQ]; exact hcQ i hlt
      have HR : Hid (wr.rowIs w.heap.size 22 n (fun s => Qxb6605249a.u64 (cntTo (fun i => (J i).toNat) i s)) ∧ Below w.heap.size w wr ∧ ∀ x, x < i → VI n J S I.bL I.qL X Y x) := ⟨hrow, hbel, hall⟩
      have HF : Hid ((∀ i, i < L → w.cell? ⟨I.sb, I.so + i, none⟩ = some (.int .u64 (S i))) ∧ (∀ i, i < L → 0 < I.bL i → ∃ b o, I.bA i = some ⟨b, o, none⟩ ∧ b < B ∧ ∀ k, k < I.bL i → w.cell? ⟨b, o + k, none⟩ = some (.int .i64 (X i k))) ∧ (∀ i, i < L → 0 < I.qL i → ∃ b o, I.qA i = some ⟨b, o, none⟩ ∧ b < B ∧ ∀ k, k < I.qL i → w.cell? ⟨b, o + k, none⟩ = some (.int .u64 (Y i k))) ∧ (∀ i, i < L → w.cell? ⟨I.bb, I.bo + i, none⟩ = some (.slice (I.bA i) (I.bL i) (I.bC i))) ∧ (∀ i, i < L → w.cell? ⟨I.qb, I.qo + i, none⟩ = some (.slice (I.qA i) (I.qL i) (I.qC i)))) := ⟨hcS, hcX, hcY, hcB, hcQ⟩
      have hmi := hm i hlt
      have hmi2 := hm2 i hlt
      clear hrow hbel hall hcJ hcS hcB hcQ hcX hcY hI hm hm2
      by_cases h1 : J i < 0
      · go_wp2
        go_ret
        exact vq_no HR.out.2.1
      by_cases h2 : J i < (n : Int)
      case neg =>
        go_wp2
        go_ret
        exact vq_no HR.out.2.1
      obtain ⟨j, hj⟩ : ∃ j : Nat, J i = j := ⟨(J i).toNat, by omega⟩
      have hjn : j < n := by omega
      have hjn' : (j : Int) < (n : Int) := by omega
      have HJ : Hid (J i = (j : Int)) := hj
      rw [hj] at c1
      clear h1 h2 hj
      have dj1 : decide ((j : Int) < 0) = false := by simp
      have dj2 : decide (n ≤ j) = false := by simp; omega
      have dj3 : decide ((n : Int) ≤ (j : Int)) = false := by simp; omega
      by_cases h3 : I.bL i = I.qL i
      case neg =>
        have d3 : ((I.bL i : Int) != (I.qL i : Int)) = true := by rw [bne_iff_ne]; omega
        clear h3
        go_wp2_with fail
        go_quiet (fail)
        go_wp2_with fail
        go_ret
        exact vq_no (below_drewN HR.out.2.1 _)
      have d3 : ((I.bL i : Int) != (I.qL i : Int)) = false := by simp [h3]
      have H3 : Hid (I.bL i = I.qL i) := h3
      clear h3
      go_wp2_with fail
      go_quiet (fail)
      obtain ⟨wd, hwd⟩ : ∃ wd, wd = wr.drewN nq := ⟨_, rfl⟩
      rw [← hwd]
      have HR2 : Hid (wd.rowIs w.heap.size 22 n (fun s => Qxb6605249a.u64 (cntTo (fun i => (J i).toNat) i s)) ∧ Below w.heap.size w wd ∧ ∀ x, x < i → VI n J S I.bL I.qL X Y x) := ⟨by rw [hwd]; exact HR.out.1.of_block (by rw [World.heap_drewN]), by rw [hwd]; exact below_drewN HR.out.2.1 _, HR.out.2.2⟩
      clear hwd HR c1 c2 c3
      obtain ⟨G, hG⟩ : ∃ G, G = gk := ⟨_, rfl⟩
      subst hG
      go_wp2_with fail
      go_loopg [14] (I.bL i) (fun gk t wr => ∃ k : Nat, k + gk = I.bL i ∧ t = .int .i64 k ∧ wr.rowIs w.heap.size 22 n (fun s => Qxb6605249a.u64 (cntTo (fun i => (J i).toNat) i s)) ∧ Below w.heap.size w wr ∧ ∀ x, x < k → 0 ≤ X i x ∧ X i x < n ∧ 1 ≤ Y i x ∧ Y i x ≤ cntTo (fun i => (J i).toNat) i (X i x).toNat)
      case atStart => exact ⟨0, by omega, rfl, HR2.out.1, HR2.out.2.1, fun x hx => by omega⟩
      case round =>
        obtain ⟨k, hk, rfl, hrow, hbel, hin⟩ := hrel
        have c2 : wr.cell? ⟨I.bb, I.bo + i, none⟩ = some (.slice (I.bA i) (I.bL i) (I.bC i)) := by rw [hbel.cell (p := ⟨I.bb, I.bo + i, none⟩) lB]; exact HF.out.2.2.2.1 i hlt
        by_cases hkl : k < I.bL i
        · have hkl' : (k : Int) < (I.bL i : Int) := by omega
          have hkl2 : (k : Int) < (I.qL i : Int) := by have := H3.out; omega
          obtain ⟨xb, xo, hxa, hxb, hxc⟩ := HF.out.2.1 i hlt (by omega)
          obtain ⟨yb, yo, hya, hyb, hyc⟩ := HF.out.2.2.1 i hlt (by have := H3.out; omega)
          have c3 : wr.cell? ⟨I.qb, I.qo + i, none⟩ = some (.slice (I.qA i) (I.qL i) (I.qC i)) := by rw [hbel.cell (p := ⟨I.qb, I.qo + i, none⟩) lQ]; exact HF.out.2.2.2.2 i hlt
          have c4 : wr.cell? ⟨xb, xo + k, none⟩ = some (.int .i64 (X i k)) := by rw [hbel.cell (p := ⟨xb, xo + k, none⟩) (Nat.lt_of_lt_of_le hxb hB)]; exact hxc k hkl
          have c5 : wr.cell? ⟨yb, yo + k, none⟩ = some (.int .u64 (Y i k)) := by rw [hbel.cell (p := ⟨yb, yo + k, none⟩) (Nat.lt_of_lt_of_le hyb hB)]; exact hyc k (by have := H3.out; omega)
          rw [hxa] at c2
          rw [hya] at c3
          have HQ : Hid (wr.rowIs w.heap.size 22 n (fun s => Qxb6605249a.u64 (cntTo (fun i => (J i).toNat) i s)) ∧ Below w.heap.size w wr ∧ ∀ x, x < k → 0 ≤ X i x ∧ X i x < n ∧ 1 ≤ Y i x ∧ Y i x ≤ cntTo (fun i => (J i).toNat) i (X i x).toNat) := ⟨hrow, hbel, hin⟩
          clear hxa hya hxc hyc hin hbel
          by_cases h1 : X i k < 0
          · clear hrow
            go_wp2
            go_ret
            exact vq_no HQ.out.2.1
          by_cases h2 : X i k < (n : Int)
          case neg =>
            clear hrow
            go_wp2
            go_ret
            exact vq_no HQ.out.2.1
          obtain ⟨x, hx⟩ : ∃ x : Nat, X i k = x := ⟨(X i k).toNat, by omega⟩
          have hxn : x < n := by omega
          have hxn' : (x : Int) < (n : Int) := by omega
          have HX : Hid (X i k = (x : Int)) := hx
          rw [hx] at c4
          clear h1 h2 hx
          have c6 : wr.cell? ⟨w.heap.size, x, none⟩ = some (.int .u64 (cntTo (fun i => (J i).toNat) i x)) := hrow.cell hxn
          clear hrow
          by_cases h4 : (Y i k : Int) < 1
          · go_wp2
            go_ret
            exact vq_no HQ.out.2.1
          obtain ⟨cx, hcx⟩ : ∃ cx, cx = cntTo (fun i => (J i).toNat) i x := ⟨_, rfl⟩
          rw [← hcx] at c6
          have HC : Hid (cx = cntTo (fun i => (J i).toNat) i x) := hcx
          clear hcx
          by_cases h5 : (cx : Int) < (Y i k : Int)
          · have d5 : decide ((cx : Int) < (Y i k : Int)) = true := by simp; omega
            go_wp2
            go_ret
            exact vq_no HQ.out.2.1
          have d5 : decide ((cx : Int) < (Y i k : Int)) = false := by simp; omega
          go_wp2
          go_roundg (gk - 1)
          case measure => omega
          case rel =>
            refine ⟨k + 1, by omega, by go_num, HQ.out.1, HQ.out.2.1, fun z hz => ?_⟩
            by_cases e : z = k
            · subst e
              refine ⟨by rw [HX.out]; omega, by rw [HX.out]; omega, by omega, ?_⟩
              rw [HX.out, Int.toNat_natCast, ← HC.out]
              omega
            · exact HQ.out.2.2 z (by omega)
        · have c7 : wr.cell? ⟨w.heap.size, j, none⟩ = some (.int .u64 (cntTo (fun i => (J i).toNat) i j)) := hrow.cell hjn
          have c8 := hrow.frozen j
          have c9 : wr.cell? ⟨I.sb, I.so + i, none⟩ = some (.int .u64 (S i)) := by rw [hbel.cell (p := ⟨I.sb, I.so + i, none⟩) lS]; exact HF.out.1 i hlt
          have hkl' : ¬ (k : Int) < (I.bL i : Int) := by omega
          have HQ : Hid (wr.rowIs w.heap.size 22 n (fun s => Qxb6605249a.u64 (cntTo (fun i => (J i).toNat) i s)) ∧ Below w.heap.size w wr ∧ ∀ x, x < I.bL i → 0 ≤ X i x ∧ X i x < n ∧ 1 ≤ Y i x ∧ Y i x ≤ cntTo (fun i => (J i).toNat) i (X i x).toNat) := ⟨hrow, hbel, fun x hx => hin x (by omega)⟩
          have hcb := cntTo_le (fun i => (J i).toNat) i j
          obtain ⟨cx, hcx⟩ : ∃ cx, cx = cntTo (fun i => (J i).toNat) i j := ⟨_, rfl⟩
          rw [← hcx] at c7 hcb
          have HC : Hid (cx = cntTo (fun i => (J i).toNat) i j) := hcx
          clear hcx hrow hbel hin d3
          have hwp : IntKind.u64.wrap ((cx : Int) + 1) = (cx : Int) + 1 := wrapu (p := cx + 1) (by omega) (by omega)
          by_cases h6 : S i = cx + 1
          · have d6 : ((S i : Int) != (cx : Int) + 1) = false := by simp; omega
            have H6 : Hid (S i = cx + 1) := h6
            clear h6
            go_wp2_with fail
            go_quiet (fail)
            go_wp2_with fail
            go_roundg (G - 1)
            case measure => omega
            case rel =>
              refine ⟨i + 1, by omega, by go_num, ?_, ?_, fun z hz => ?_⟩
              · refine ((HQ.out.1.set j (.int .u64 (S i))).of_block (by simp [World.heap_drewN, World.setCell])).congr fun s hs => ?_
                show (if s = j then Value.int .u64 (S i) else Qxb6605249a.u64 _) = Qxb6605249a.u64 _
                have hjj : (J i).toNat = j := by rw [HJ.out]; simp
                rw [cntTo, hjj]
                by_cases e : s = j
                · subst e
                  rw [if_pos rfl, if_pos rfl, H6.out, HC.out]; rfl
                · rw [if_neg e, if_neg (fun h => e h.symm)]
              · exact (below_drewN HQ.out.2.1 _).setCell (p := ⟨w.heap.size, j, none⟩) (Nat.le_refl _) _
              · by_cases e : z = i
                · subst e
                  have hjj : (J z).toNat = j := by rw [HJ.out]; simp
                  exact ⟨by rw [HJ.out]; omega, by rw [HJ.out]; omega, H3.out, HQ.out.2.2, by rw [hjj, ← HC.out]; exact H6.out⟩
                · exact HR2.out.2.2 z (by omega)
          · have d6 : ((S i : Int) != (cx : Int) + 1) = true := by rw [bne_iff_ne]; omega
            clear h6
            go_wp2_with fail
            go_quiet (fail)
            go_wp2_with fail
            go_ret
            exact vq_no (below_drewN HQ.out.2.1 _)
    · have e : i = L := by omega
      subst e
      have HR : Hid (Below w.heap.size w wr ∧ ∀ x, x < i → VI n J S I.bL I.qL X Y x) := ⟨hbel, hall⟩
      clear hrow hbel hall hcJ hcS hcB hcQ hcX hcY hI hm hm2
      go_wp2_with fail
      go_ret
      exact ⟨true, rfl, fun _ => HR.out.2, HR.out.1⟩

end Go.Proofs.Qxb6605249a

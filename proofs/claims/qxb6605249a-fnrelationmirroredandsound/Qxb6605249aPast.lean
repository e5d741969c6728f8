/-
  THE WALK OF zzModelPast.
-/
import Derived.Test.Qxb6605249aReachParts
import Derived.BigQuiet
set_option linter.unusedVariables false
set_option linter.unusedSimpArgs false
namespace Go.Proofs.Qxb6605249a
open Go.RowKit

/-- The newest of sender s's marked messages among the first i. -/
def pastTo (J S : Nat → Nat) (sn : Nat → Bool) : Nat → Nat → Nat
  | 0, _ => 0
  | i + 1, s => if sn i = true ∧ J i = s ∧ pastTo J S sn i s < S i then S i else pastTo J S sn i s

set_option maxRecDepth 100000 in
set_option maxHeartbeats 1000000 in
theorem modelPast_any (w : World) (jb jo jc sb so sc mb L n : Nat) (J S : Nat → Nat) (sn : Nat → Bool) (hjb : jb < w.heap.size) (hsb : sb < w.heap.size)
    (hJ : ∀ k, k < L → w.cell? ⟨jb, jo + k, none⟩ = some (.int .i64 (J k))) (hS : ∀ k, k < L → w.cell? ⟨sb, so + k, none⟩ = some (.int .u64 (S k)))
    (hM : w.rowIs mb 4 L (fun i => .bool (sn i))) (hn : n ≤ 4096) (hL : L ≤ 4096) (hjn : ∀ k, k < L → J k < n) :
    Calls Try.prog 16 #[.int .i64 n, .slice (some ⟨jb, jo, none⟩) L jc, .slice (some ⟨sb, so, none⟩) L sc, .slice (some ⟨mb, 0, none⟩) L L] w fun e w' =>
      e = .returned (.slice (some ⟨w.heap.size, 0, none⟩) n n) ∧ w'.rowIs w.heap.size 22 n (fun s => u64 (pastTo J S sn L s)) ∧ Below w.heap.size w w' := by
  have hmk := run_make_row' (P := Try.prog) 24 22 (.int .u64 0) 8 Try.underlying24 Try.info22 rfl .i64 .i64 n (by omega) (by omega)
  have mk1 := hmk w
  clear hmk
  have hr0 : (w.alloc (.cells (madeCells #[.int .u64 0] n) 22)).rowIs w.heap.size 22 n (fun s => u64 (pastTo J S sn 0 s)) := World.rowIs_made w (.int .u64 0) n 22
  have hb0 : Below w.heap.size w (w.alloc (.cells (madeCells #[.int .u64 0] n) 22)) := (Below.refl _ _).alloc (Nat.le_refl _) _
  have H0 : Hid ((w.alloc (.cells (madeCells #[.int .u64 0] n) 22)).rowIs w.heap.size 22 n (fun s => u64 (pastTo J S sn 0 s)) ∧ Below w.heap.size w (w.alloc (.cells (madeCells #[.int .u64 0] n) 22))) := ⟨hr0, hb0⟩
  clear hr0 hb0
  go_enter Try.func16, Try.ntmps16
  go_wp2
  clear mk1
  go_loopg [10] L (fun gk t wr => ∃ k : Nat, k + gk = L ∧ t = .int .i64 k ∧ wr.rowIs w.heap.size 22 n (fun s => u64 (pastTo J S sn k s)) ∧ Below w.heap.size w wr)
  case atStart => exact ⟨0, by omega, rfl, H0.out⟩
  case round =>
    obtain ⟨i, hi, rfl, hrow, hbel⟩ := hrel
    clear H0
    by_cases hlt : i < L
    · have hlt' : (i : Int) < (L : Int) := by omega
      have hjn1 := hjn i hlt
      have hjn' : (J i : Int) < (n : Int) := by omega
      have c1 : wr.cell? ⟨jb, jo + i, none⟩ = some (.int .i64 (J i)) := by rw [hbel.cell (p := ⟨jb, jo + i, none⟩) hjb]; exact hJ i hlt
      have c2 : wr.cell? ⟨sb, so + i, none⟩ = some (.int .u64 (S i)) := by rw [hbel.cell (p := ⟨sb, so + i, none⟩) hsb]; exact hS i hlt
      have c3 : wr.cell? ⟨mb, i, none⟩ = some (.bool (sn i)) := by rw [hbel.cell (p := ⟨mb, i, none⟩) hM.lt]; exact hM.cell hlt
      have c4 : wr.cell? ⟨w.heap.size, J i, none⟩ = some (.int .u64 (pastTo J S sn i (J i))) := hrow.cell hjn1
      have c5 := hrow.frozen (J i)
      have lj : jb ≠ w.heap.size := by omega
      have ls : sb ≠ w.heap.size := by omega
      have HR : Hid (wr.rowIs w.heap.size 22 n (fun s => u64 (pastTo J S sn i s)) ∧ Below w.heap.size w wr) := ⟨hrow, hbel⟩
      clear hrow hbel hJ hS hM hjn
      have stay : (¬ (sn i = true ∧ pastTo J S sn i (J i) < S i)) → ∀ n', (wr.drewN n').rowIs w.heap.size 22 n (fun s => u64 (pastTo J S sn (i + 1) s)) ∧ Below w.heap.size w (wr.drewN n') := fun hno n' => by
        refine ⟨(HR.out.1.of_block (by rw [World.heap_drewN])).congr fun s hs => ?_, below_drewN HR.out.2 n'⟩
        show u64 _ = u64 _
        rw [pastTo, if_neg (fun h => hno ⟨h.1, by rw [h.2.1]; exact h.2.2⟩)]
      have HT := (show Hid _ from stay)
      clear stay
      cases hsn : sn i with
      | false =>
        rw [hsn] at c3
        have HN : Hid (sn i = false) := hsn
        clear hsn
        go_wp2_with fail
        go_quiet (fail)
        go_wp2_with fail
        go_roundg (gk - 1)
        case measure => omega
        case rel => exact ⟨i + 1, by omega, by go_num, HT.out (fun h => by rw [HN.out] at h; exact absurd h.1 (by simp)) nq⟩
      | true =>
        rw [hsn] at c3
        have HN : Hid (sn i = true) := hsn
        clear hsn
        by_cases hgt : pastTo J S sn i (J i) < S i
        · have dg : decide ((pastTo J S sn i (J i) : Int) < (S i : Int)) = true := by simp; omega
          have HG : Hid (pastTo J S sn i (J i) < S i) := hgt
          obtain ⟨pp, hpp⟩ : ∃ pp, pp = pastTo J S sn i (J i) := ⟨_, rfl⟩
          rw [← hpp] at c4 dg hgt
          have hgt' : (pp : Int) < (S i : Int) := by omega
          clear hpp
          go_wp2_with fail
          go_quiet (fail)
          go_wp2_with fail
          go_region
          all_goals
            go_wp2_with fail
            go_roundg (gk - 1)
            case measure => omega
            case rel =>
              refine ⟨i + 1, by omega, by go_num, ?_, ?_⟩
              · refine ((HR.out.1.set (J i) (.int .u64 (S i))).of_block (by simp [World.heap_drewN, World.setCell])).congr fun s hs => ?_
                show (if s = J i then Value.int .u64 (S i) else u64 _) = u64 _
                rw [pastTo]
                by_cases e : s = J i
                · subst e
                  rw [if_pos rfl, if_pos ⟨HN.out, rfl, HG.out⟩]; rfl
                · rw [if_neg e, if_neg (fun h => e h.2.1.symm)]
              · first
                | exact below_drewN (((below_drewN HR.out.2 nq).setCell (p := ⟨w.heap.size, J i, none⟩) (Nat.le_refl _) _)) _
                | exact (((below_drewN HR.out.2 nq).setCell (p := ⟨w.heap.size, J i, none⟩) (Nat.le_refl _) _)).drew
                | exact ((HR.out.2.setCell (p := ⟨w.heap.size, J i, none⟩) (Nat.le_refl _) _)).drew
                | exact below_drewN (HR.out.2.setCell (p := ⟨w.heap.size, J i, none⟩) (Nat.le_refl _) _) _
        · have dg : decide ((pastTo J S sn i (J i) : Int) < (S i : Int)) = false := by simp; omega
          have HG : Hid (¬ pastTo J S sn i (J i) < S i) := hgt
          obtain ⟨pp, hpp⟩ : ∃ pp, pp = pastTo J S sn i (J i) := ⟨_, rfl⟩
          rw [← hpp] at c4 dg hgt
          have hgt' : ¬ (pp : Int) < (S i : Int) := by omega
          clear hpp
          go_wp2_with fail
          go_quiet (fail)
          go_wp2_with fail
          go_roundg (gk - 1)
          case measure => omega
          case rel => exact ⟨i + 1, by omega, by go_num, HT.out (fun h => HG.out h.2) nq⟩
    · have e : i = L := by omega
      subst e
      have HR : Hid (wr.rowIs w.heap.size 22 n (fun s => u64 (pastTo J S sn i s)) ∧ Below w.heap.size w wr) := ⟨hrow, hbel⟩
      clear hrow hbel hJ hS hM hjn
      go_wp2_with fail
      go_ret
      exact ⟨rfl, HR.out⟩

end Go.Proofs.Qxb6605249a

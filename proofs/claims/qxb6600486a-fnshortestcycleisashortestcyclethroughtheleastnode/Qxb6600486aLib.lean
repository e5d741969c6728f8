/-
  THE WALKS OF slices.BinarySearch (32), slices.Reverse (33) AND WHAT THEY CALL.
-/
import Derived.Test.Qxb6600486aGraph
set_option linter.unusedVariables false
set_option linter.unusedSimpArgs false
namespace Go.Proofs.Qxb6600486a
open Go.RowKit

theorem isNaN38 (a : Nat) (w : World) : Calls Try.prog 38 #[.int .i64 a] w fun e w' => e = .returned (.bool false) ∧ w' = w := by
  have d : ((a : Int) != (a : Int)) = false := by simp
  go_enter Try.func38, Try.ntmps38
  go_wp2
  go_ret
  exact ⟨rfl, rfl⟩

theorem isNaN57 (a : Nat) (w : World) : Calls Try.prog 57 #[.int .i64 a] w fun e w' => e = .returned (.bool false) ∧ w' = w := by
  have d : ((a : Int) != (a : Int)) = false := by simp
  go_enter Try.func57, Try.ntmps57
  go_wp2
  go_ret
  exact ⟨rfl, rfl⟩

theorem less37 (a b : Nat) (w : World) : Calls Try.prog 37 #[.int .i64 a, .int .i64 b] w fun e w' => e = .returned (.bool (decide (a < b))) ∧ w' = w := by
  go_enter Try.func37, Try.ntmps37
  go_wp2_with fail
  refine (isNaN57 a w).mono ?_
  rintro e w' ⟨rfl, rfl⟩
  by_cases h : a < b
  · have d : decide ((a : Int) < (b : Int)) = true := by simp; omega
    have d2 : decide (a < b) = true := by simp; omega
    have h' : (a : Int) < (b : Int) := by omega
    go_wp2_with fail
    go_ret
    exact ⟨by rw [d2]; rfl, rfl⟩
  · have d : decide ((a : Int) < (b : Int)) = false := by simp; omega
    have d2 : decide (a < b) = false := by simp; omega
    have h' : ¬ (a : Int) < (b : Int) := by omega
    go_wp2_with fail
    go_ret
    exact ⟨by rw [d2]; rfl, rfl⟩

/-- What BinarySearch answers. -/
def SrchQ (w : World) (len : Nat) (C : Nat → Nat) (x : Nat) (e : Ending) (w' : World) : Prop := ∃ (p : Nat) (f : Bool), e = .returned (.tuple #[.int .i64 p, .bool f]) ∧ (f = true ↔ ∃ i, i < len ∧ C i = x) ∧ w' = w

theorem under64 : Try.prog.underlying 64 = some (.int .u64) := by kernel_rfl

set_option maxRecDepth 100000 in
set_option maxHeartbeats 1000000 in
theorem search_any (w : World) (b o len cap x : Nat) (C : Nat → Nat) (hS : Seg w b o len (fun i => iv (C i))) (hinc : ∀ i j, i < j → j < len → C i < C j) (hl : len ≤ 4096) :
    Calls Try.prog 32 #[.slice (some ⟨b, o, none⟩) len cap, .int .i64 x] w fun e w' => SrchQ w len C x e w' := by
  have hu64 := under64
  have HINC := (show Hid (∀ i j, i < j → j < len → C i < C j) from hinc)
  have HSG := (show Hid (Seg w b o len (fun i => iv (C i))) from hS)
  clear hinc hS
  go_enter Try.func32, Try.ntmps32
  go_wp2_with fail
  go_loopg [7, 8] (len + 1) (fun gk s t wr => ∃ i j : Nat, i ≤ j ∧ j ≤ len ∧ j - i < gk ∧ s = .int .i64 i ∧ t = .int .i64 j ∧ (∀ k, k < i → C k < x) ∧ (∀ k, j ≤ k → k < len → x ≤ C k) ∧ wr = w)
  case atStart => exact ⟨0, len, by omega, by omega, by omega, rfl, rfl, fun k hk => by omega, fun k h1 h2 => by omega, rfl⟩
  case round =>
    obtain ⟨i, j, hij, hj, hg, rfl, rfl, hlo, hhi, rfl⟩ := hrel
    have HI : Hid ((∀ k, k < i → C k < x) ∧ ∀ k, j ≤ k → k < len → x ≤ C k) := ⟨hlo, hhi⟩
    clear hlo hhi
    by_cases hlt : i < j
    · have hlt' : (i : Int) < (j : Int) := by omega
      obtain ⟨h, hh⟩ : ∃ h, h = (i + j) / 2 := ⟨_, rfl⟩
      have hh1 : i ≤ h := by omega
      have hh2 : h < j := by omega
      have hhl : (h : Int) < (len : Int) := by omega
      have c1 : wr.cell? ⟨b, o + h, none⟩ = some (.int .i64 (C h)) := HSG.out h (by omega)
      have hwr : IntKind.i64.wrap (h : Int) = (h : Int) := by rw [IntKind.wrap_i64]; omega
      have hsh : ((i : Int) + (j : Int)) / 2 = (h : Int) := by omega
      clear hh
      go_wp2_with fail
      refine (less37 (C h) x wr).mono ?_
      rintro e w' ⟨rfl, rfl⟩
      by_cases hc : C h < x
      · have d : decide (C h < x) = true := by simp; omega
        rw [d]
        have HH : Hid (∀ k, k < h + 1 → C k < x) := fun k hk => by
          by_cases e : k = h
          · rw [e]; exact hc
          · have := HINC.out k h (by omega) (by omega); omega
        clear d hc c1
        go_wp2_with fail
        go_roundg (gk - 1)
        case measure => omega
        case rel => exact ⟨h + 1, j, by omega, by omega, by omega, by go_num, rfl, HH.out, HI.out.2, rfl⟩
      · have d : decide (C h < x) = false := by simp; omega
        rw [d]
        have HH : Hid (∀ k, h ≤ k → k < len → x ≤ C k) := fun k h1 h2 => by
          by_cases e : k = h
          · rw [e]; omega
          · have := HINC.out h k (by omega) h2; omega
        clear d hc c1
        go_wp2_with fail
        go_roundg (gk - 1)
        case measure => omega
        case rel => exact ⟨i, h, by omega, by omega, by omega, rfl, rfl, HI.out.1, HH.out, rfl⟩
    · have hlt' : ¬ (i : Int) < (j : Int) := by omega
      have e : i = j := by omega
      subst e
      by_cases hl2 : i < len
      · have hl2' : (i : Int) < (len : Int) := by omega
        have c1 : wr.cell? ⟨b, o + i, none⟩ = some (.int .i64 (C i)) := HSG.out i hl2
        by_cases he : C i = x
        · have d : ((C i : Int) == (x : Int)) = true := by simp [he]
          have HF : Hid (C i = x) := he
          clear he
          go_wp2_with fail
          go_ret2
          exact ⟨i, true, rfl, ⟨fun _ => ⟨i, hl2, HF.out⟩, fun _ => rfl⟩, rfl⟩
        · have d : ((C i : Int) == (x : Int)) = false := by rw [beq_eq_false_iff_ne]; omega
          have HF : Hid (¬ ∃ k, k < len ∧ C k = x) := by
            rintro ⟨k, hk, e⟩
            rcases Nat.lt_trichotomy k i with h | h | h
            · have := HI.out.1 k h; omega
            · rw [h] at e; exact he e
            · have h1 := HINC.out i k h hk
              have h2 := HI.out.2 i (Nat.le_refl _) hl2
              omega
          clear he
          go_wp2_with fail
          refine (isNaN38 (C i) wr).mono ?_
          rintro e w' ⟨rfl, rfl⟩
          go_wp2_with fail
          go_ret2
          exact ⟨i, false, rfl, ⟨fun h => by simp at h, fun h => absurd h HF.out⟩, rfl⟩
      · have hl2' : ¬ (i : Int) < (len : Int) := by omega
        have HF : Hid (¬ ∃ k, k < len ∧ C k = x) := by
          rintro ⟨k, hk, e⟩
          have := HI.out.1 k (by omega)
          omega
        go_wp2_with fail
        go_ret2
        exact ⟨i, false, rfl, ⟨fun h => by simp at h, fun h => absurd h HF.out⟩, rfl⟩

end Go.Proofs.Qxb6600486a

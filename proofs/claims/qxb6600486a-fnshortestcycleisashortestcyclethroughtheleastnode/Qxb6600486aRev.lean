/-
  THE WALK OF slices.Reverse (33).
-/
import Derived.Test.Qxb6600486aGraph
set_option linter.unusedVariables false
set_option linter.unusedSimpArgs false
namespace Go.Proofs.Qxb6600486a
open Go.RowKit

theorem App.frozen {w : World} {t : TypeId} {b o len cap : Nat} {f : Nat → Value} (h : App w t b o len cap f) (i : Nat) : w.frozen? ⟨b, i, none⟩ = false := by
  obtain ⟨c, hc, _⟩ := h.blk
  simp [World.frozen?, hc]

theorem App.set {w : World} {t : TypeId} {b o len cap : Nat} {f : Nat → Value} (h : App w t b o len cap f) {i : Nat} (hi : i < len) (v : Value) : App (w.setCell ⟨b, o + i, none⟩ v) t b o len cap (upd f i v) := by
  obtain ⟨c, hc, hs⟩ := h.blk
  refine ⟨⟨c.setIfInBounds (o + i) v, ?_, by simpa using hs⟩, h.le, fun j hj => ?_⟩
  · exact heap_setCell_same w b (o + i) c t v hc
  · by_cases e : j = i
    · rw [e, upd_same]
      exact World.cell?_setCell_same _ _ _ (h.seg i hi)
    · rw [upd_ne e, World.cell?_setCell_other _ _ _ _ (addr_ne (by omega))]
      exact h.seg j hj

/-- After k exchanges. -/
def rev (len k : Nat) (f : Nat → Nat) (i : Nat) : Nat := if i < k ∨ len ≤ i + k then f (len - 1 - i) else f i

theorem rev_step {len k : Nat} {f : Nat → Nat} (hk : k < len - 1 - k) (i : Nat) (hi : i < len) : rev len (k + 1) f i = if i = len - 1 - k then f k else if i = k then f (len - 1 - k) else rev len k f i := by
  unfold rev
  by_cases e1 : i = len - 1 - k
  · rw [if_pos e1, if_pos (by omega)]; congr 1; omega
  · rw [if_neg e1]
    by_cases e2 : i = k
    · rw [if_pos e2, if_pos (by omega), e2]
    · rw [if_neg e2]
      by_cases h : i < k ∨ len ≤ i + k
      · rw [if_pos h, if_pos (by omega)]
      · rw [if_neg h, if_neg (by omega)]

theorem rev_end {len k : Nat} {f : Nat → Nat} (hk : ¬ k < len - 1 - k) (i : Nat) (hi : i < len) : rev len k f i = f (len - 1 - i) := by
  unfold rev
  by_cases h : i < k ∨ len ≤ i + k
  · rw [if_pos h]
  · rw [if_neg h]; congr 1; omega

set_option maxRecDepth 100000 in
set_option maxHeartbeats 1000000 in
theorem reverse_any (w : World) (b o len cap : Nat) (f : Nat → Nat) (hA : App w 3 b o len cap (fun i => iv (f i))) (h1 : 1 ≤ len) (hl : len ≤ 4096) :
    Calls Try.prog 33 #[.slice (some ⟨b, o, none⟩) len cap] w fun e w' => e = .returned (.tuple #[]) ∧ App w' 3 b o len cap (fun i => iv (f (len - 1 - i))) ∧ w.grownBy w' (some b) := by
  have H0 : Hid (App w 3 b o len cap (fun i => iv (rev len 0 f i))) := hA.congr fun i hi => by unfold rev; rw [if_neg (by omega)]
  clear hA
  obtain ⟨l1, hl1⟩ : ∃ l1, len = l1 + 1 := ⟨len - 1, by omega⟩
  subst hl1
  go_enter Try.func33, Try.ntmps33
  go_wp2
  go_loopg [2, 3] (l1 + 1) (fun gk s t wr => ∃ k : Nat, k + gk = l1 + 1 ∧ 2 * k ≤ l1 + 1 ∧ s = .int .i64 k ∧ t = .int .i64 ((l1 : Int) - k) ∧ App wr 3 b o (l1 + 1) cap (fun i => iv (rev (l1 + 1) k f i)) ∧ w.grownBy wr (some b))
  case atStart => exact ⟨0, by omega, by omega, rfl, by go_num, H0.out, below_grownBy (Below.refl _ _) _⟩
  case round =>
    clear H0
    obtain ⟨k, hk, hk2, rfl, rfl, happ, hg⟩ := hrel
    by_cases hlt : k < l1 - k
    · obtain ⟨j, hj⟩ : ∃ j, j = l1 - k := ⟨_, rfl⟩
      have hji : (l1 : Int) - (k : Int) = (j : Int) := by omega
      rw [hji]
      have hkj : (k : Int) < (j : Int) := by omega
      have hjl : (j : Int) < (l1 : Int) + 1 := by omega
      have hkl : (k : Int) < (l1 : Int) + 1 := by omega
      have c1 : wr.cell? ⟨b, o + k, none⟩ = some (.int .i64 (f k)) := by
        rw [happ.seg k (by omega)]
        show some (iv (rev (l1 + 1) k f k)) = _
        rw [rev, if_neg (by omega)]; rfl
      have c2 : wr.cell? ⟨b, o + j, none⟩ = some (.int .i64 (f j)) := by
        rw [happ.seg j (by omega)]
        show some (iv (rev (l1 + 1) k f j)) = _
        rw [rev, if_neg (by omega)]; rfl
      have c3 := happ.frozen (o + k)
      have c4 := happ.frozen (o + j)
      have hne : ¬ o + k = o + j := by omega
      have hne2 : ¬ o + j = o + k := by omega
      have HX : Hid (App wr 3 b o (l1 + 1) cap (fun i => iv (rev (l1 + 1) k f i)) ∧ w.grownBy wr (some b) ∧ j = l1 - k) := ⟨happ, hg, hj⟩
      have hkj2 : k < j := by omega
      have hjl2 : j ≤ l1 := by omega
      clear happ hg hj hji hlt
      go_wp2_with fail
      go_region
      all_goals
        go_wp2_with fail
        go_roundg (gk - 1)
        case measure => omega
        case rel =>
          obtain ⟨x1, x2, x3⟩ := HX.out
          refine ⟨k + 1, by omega, by omega, by go_num, by have := x3; go_num, ?_, ?_⟩
          · have := ((x1.set (i := k) (by omega) (.int .i64 (f j))).set (i := j) (by omega) (.int .i64 (f k))).congr (g := fun i => iv (rev (l1 + 1) (k + 1) f i)) fun i hi => by
              have hj2 : l1 + 1 - 1 - k = j := by omega
              rw [rev_step (by omega) i hi, hj2]
              unfold upd
              split
              · rfl
              · split <;> rfl
            first
            | exact this.of_block (by rfl)
            | exact this.of_block (by rw [World.heap_drewN])
          · first
            | exact grownBy_trans x2 ⟨rfl, rfl, rfl, by simp [World.setCell, World.heap_drewN], fun y _ hy => by rw [World.heap_drewN, heap_setCell_other _ _ _ _ (by simpa using hy), heap_setCell_other _ _ _ _ (by simpa using hy)]⟩
            | exact grownBy_trans x2 ⟨rfl, rfl, rfl, by simp [World.setCell, World.drew], fun y _ hy => by
                show ((wr.setCell _ _).setCell _ _).heap[y]? = _
                rw [heap_setCell_other _ _ _ _ (by simpa using hy), heap_setCell_other _ _ _ _ (by simpa using hy)]⟩
    · have hlt' : ¬ (k : Int) < (l1 : Int) - (k : Int) := by omega
      have HX : Hid (App wr 3 b o (l1 + 1) cap (fun i => iv (f (l1 + 1 - 1 - i))) ∧ w.grownBy wr (some b)) := ⟨happ.congr fun i hi => by rw [rev_end (by omega) i hi], hg⟩
      clear happ hg
      go_wp2_with fail
      go_end0
      exact ⟨rfl, HX.out⟩

end Go.Proofs.Qxb6600486a

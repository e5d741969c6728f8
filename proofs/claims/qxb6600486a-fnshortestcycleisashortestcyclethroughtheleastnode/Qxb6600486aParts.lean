/-
  THE SHIM OF shortestCycle (17); A CLASS HAS A CYCLE; A CYCLE IS NO LONGER THAN ITS CLASS.
-/
import Derived.Test.Qxb6600486aCycle
import Derived.Test.Qxb6600486aClasses
import Derived.Deep.Slices
set_option linter.unusedVariables false
set_option linter.unusedSimpArgs false
namespace Go.Proofs.Qxb6600486a
open Go.RowKit

theorem pigeon : ∀ (m l : Nat) (f : Nat → Nat), (∀ i, i < l → f i < m) → (∀ i j, i < j → j < l → f i ≠ f j) → l ≤ m
  | 0, l, f, h1, _ => by
    rcases Nat.eq_zero_or_pos l with h | h
    · omega
    · have := h1 0 h; omega
  | m + 1, l, f, h1, h2 => by
    by_cases hx : ∃ i, i < l ∧ f i = m
    · obtain ⟨a, ha, hfa⟩ := hx
      have key := pigeon m (l - 1) (fun i => if i = a then f (l - 1) else f i) (fun i hi => by
        show (if i = a then f (l - 1) else f i) < m
        by_cases e : i = a
        · rw [if_pos e]
          have g1 := h1 (l - 1) (by omega)
          have g2 := h2 a (l - 1) (by omega) (by omega)
          omega
        · rw [if_neg e]
          have g1 := h1 i (by omega)
          rcases Nat.lt_or_gt_of_ne e with h | h
          · have := h2 i a h ha; omega
          · have := h2 a i h (by omega); omega) (fun i j hij hj => by
        show (if i = a then f (l - 1) else f i) ≠ (if j = a then f (l - 1) else f j)
        by_cases ei : i = a
        · rw [if_pos ei, if_neg (by omega)]
          exact (h2 j (l - 1) (by omega) (by omega)).symm
        · rw [if_neg ei]
          by_cases ej : j = a
          · rw [if_pos ej]; exact h2 i (l - 1) (by omega) (by omega)
          · rw [if_neg ej]; exact h2 i j hij (by omega))
      omega
    · have := pigeon m l f (fun i hi => by
        have g1 := h1 i hi
        have g2 : f i ≠ m := fun e => hx ⟨i, hi, e⟩
        omega) h2
      omega

section
variable {A : Nat → Nat → Prop} {n u len : Nat} {f : Nat → Nat}

/-- The members of a class. -/
def Mem (len : Nat) (f : Nat → Nat) : Nat → Prop := fun v => ∃ i, i < len ∧ f i = v

theorem class_walk (hA : ∀ u x, u < n → A u x → x < n) (hu : u < n) (h : Lst A u n len f) {x : Nat} (hx : Reach A u x) (hx2 : Reach A x u) : ∃ k, WkP A (Mem len f) u k x :=
  (hx (fun y => Reach A u y ∧ (Reach A y u → ∃ k, WkP A (Mem len f) u k y)) ⟨Reach.refl _, fun _ => ⟨0, rfl⟩⟩ (fun a b ha hab => by
    refine ⟨ha.1.step hab, fun hb => ?_⟩
    obtain ⟨k, hk⟩ := ha.2 (((Reach.refl a).step hab).trans hb)
    have hbn := hA a b (reach_lt hA hu ha.1) hab
    exact ⟨k + 1, h.all b hbn ⟨ha.1.step hab, hb⟩, a, hk, hab⟩)).2 hx2

theorem class_cycle (hA : ∀ u x, u < n → A u x → x < n) (hu : u < n) (h : Lst A u n len f) (h1 : 1 < len) (h0 : f 0 = u) : ∃ k, 1 ≤ k ∧ WkP A (Mem len f) u k u := by
  have hm := (h.mem 1 h1).2
  have hne := h.inc 0 1 (by omega) h1
  obtain ⟨k, hk⟩ := class_walk hA hu h hm.1 hm.2
  have hk1 : 1 ≤ k := by
    rcases Nat.eq_zero_or_pos k with h2 | h2
    · rw [h2] at hk
      have hk' : f 1 = u := hk
      omega
    · exact h2
  exact (hm.2 (fun y => Reach A u y ∧ (Reach A y u → ∃ k, 1 ≤ k ∧ WkP A (Mem len f) u k y)) ⟨hm.1, fun _ => ⟨k, hk1, hk⟩⟩ (fun a b ha hab => by
    refine ⟨ha.1.step hab, fun hb => ?_⟩
    obtain ⟨k, hk1, hk⟩ := ha.2 (((Reach.refl a).step hab).trans hb)
    have hbn := hA a b (reach_lt hA hu ha.1) hab
    exact ⟨k + 1, by omega, h.all b hbn ⟨ha.1.step hab, hb⟩, a, hk, hab⟩)).2 (Reach.refl u)

/-- A cycle is a closed walk. -/
theorem Cyc.walk {P : Nat → Prop} {s l : Nat} {y : Nat → Nat} (h : Cyc A P s l y) (hs : P s) : WkP A P s l s := by
  have key : ∀ j, j < l → WkP A P s j (y j) := fun j => by
    induction j with
    | zero => intro _; exact h.y0
    | succ j ih => intro hj; exact ⟨h.inP (j + 1) (by omega) hj, y j, ih (by omega), h.ed j hj⟩
  have h1 := h.l1
  obtain ⟨l', rfl⟩ : ∃ l', l = l' + 1 := ⟨l - 1, by omega⟩
  exact ⟨hs, y l', key l' (by omega), h.cl⟩

theorem Cyc.short {s l : Nat} {y : Nat → Nat} (h : Cyc A (Mem len f) s l y) (hs : Mem len f s) : l ≤ len := by
  have hin : ∀ i, i < l → ∃ j, j < len ∧ f j = y i := fun i hi => by
    rcases Nat.eq_zero_or_pos i with h0 | h0
    · rw [h0, h.y0]; exact hs
    · exact h.inP i h0 hi
  obtain ⟨g, hg⟩ := Go.Deep.choose_lt hin
  exact pigeon len l g (fun i hi => (hg i hi).1) (fun i j hij hj e => h.inj i j hij hj (by rw [← (hg i (by omega)).2, ← (hg j hj).2, e]))

/-- closedWalk's answer is the cycle's length. -/
theorem walk_eq {s l r : Nat} {y : Nat → Nat} {ic : Nat → Bool} (hA : ∀ u x, u < n → A u x → x < n) (hsn : s < n) (hic : ∀ v, v < n → (ic v = true ↔ Mem len f v)) (hfn : ∀ i, i < len → f i < n) (h : Cyc A (Mem len f) s l y) (hs : Mem len f s) (hr : WalkR A ic s len r) : r = l := by
  have hw := wk_iff (P := Mem len f) hA hsn hic (fun v ⟨i, h1, h2⟩ => by rw [← h2]; exact hfn i h1)
  have h1 := h.walk hs
  have h2 := h.short hs
  have h3 := h.l1
  rcases hr with ⟨_, hno⟩ | ⟨g1, g2, g3, g4⟩
  · exact absurd ((hw l s).2 h1) (hno l h3 h2)
  · have e1 := h.least r g1 ((hw r s).1 g3)
    by_cases e : r = l
    · exact e
    · exact absurd ((hw l s).2 h1) (g4 l h3 (by omega))

end

theorem zzcycle_any (w : World) (fb gb n m cb co ln cc : Nat) (A : Nat → Nat → Prop) (F G C : Nat → Nat) (hR : Rows w fb gb n m F G) (hC : CSR n m A F G) (hA : ∀ u x, u < n → A u x → x < n) (hn : n ≤ 4096) (hm : m ≤ 4096)
    (hS : Seg w cb co ln (fun i => iv (C i))) (hcb : cb < w.heap.size) (hinc : ∀ i j, i < j → j < ln → C i < C j) (hCn : ∀ i, i < ln → C i < n) (hl1 : 1 ≤ ln) (hl : ln ≤ 4096)
    (hcyc : ∃ k, 1 ≤ k ∧ WkP A (Mem ln C) (C 0) k (C 0)) :
    Calls Try.prog 17 #[.slice (some ⟨fb, 0, none⟩) (n + 1) (n + 1), .slice (some ⟨gb, 0, none⟩) m m, .slice (some ⟨cb, co, none⟩) ln cc] w fun e w' => CycQ w n A (Mem ln C) (C 0) e w' := by
  have hb : Below w.heap.size w (w.alloc (.cells #[.slice (some ⟨fb, 0, none⟩) (n + 1) (n + 1), .slice (some ⟨gb, 0, none⟩) m m] 47)) := (Below.refl _ _).alloc (Nat.le_refl _) _
  have hnew := heap_alloc_new w (.cells #[.slice (some ⟨fb, 0, none⟩) (n + 1) (n + 1), .slice (some ⟨gb, 0, none⟩) m m] 47)
  have hcall := cycle_any (w.alloc (.cells #[.slice (some ⟨fb, 0, none⟩) (n + 1) (n + 1), .slice (some ⟨gb, 0, none⟩) m m] 47)) w.heap.size fb gb n m cb co ln cc A F G C (hR.below hb) hC hA hn hm
    (by rw [cell_of_row _ _ 0 _ 47 (0, 0) hnew]; rfl) (by rw [cell_of_row _ _ 1 _ 47 (0, 0) hnew]; rfl) (by simp) (seg_below hS hcb hb) (Nat.lt_of_lt_of_le hcb hb.size) hinc hCn hl1 hl hcyc
  clear hR hC hA hS hinc hCn hcyc hnew
  go_enter Try.func17, Try.ntmps17
  go_wp2_with fail
  refine hcall.mono ?_
  rintro e w1 ⟨b, o, cap, l, y, rfl, h1, h2, h3, h4, h5, h6⟩
  have HQ : Hid (CycQ w n A (Mem ln C) (C 0) (.returned (.slice (some ⟨b, o, none⟩) l cap)) w1) := ⟨b, o, cap, l, y, rfl, h1, h2, by have := hb.size; omega, h4, h5, hb.trans (h6.mono hb.size)⟩
  clear h1 h2 h3 h4 h5 h6 hcall hb
  go_wp2_with fail
  go_ret
  exact HQ.out

end Go.Proofs.Qxb6600486a

/-
  THE WALKS OF relation AND THE SHIMS.
-/
import Derived.Test.Qxb6605249aIn
set_option linter.unusedVariables false
set_option linter.unusedSimpArgs false
namespace Go.Proofs.Qxb6605249a
open Go.RowKit

/-- 1 precedes, 2 follows, 3 concurrent, 4 same, 5 forgotten. -/
def relF (g : GS) (xs xq ys yq : Nat) : Nat :=
  if xs = ys ∧ xq = yq then 4
  else if (inF g xs xq ys yq).1 then 1 else if (inF g ys yq xs xq).1 then 2 else if (inF g xs xq ys yq).2 && (inF g ys yq xs xq).2 then 3 else 5

set_option maxRecDepth 100000 in
set_option maxHeartbeats 1000000 in
theorem relation_ne (g : GS) (R : Rep) (w : World) (xs xq ys yq : Nat) (h : GC w R g) (ok : GOk g) (hx : Msg g xs xq) (hy : Msg g ys yq)
    (hb : ((xs : Int) == (ys : Int)) = false ∨ (((xs : Int) == (ys : Int)) = true ∧ ((xq : Int) == (yq : Int)) = false)) :
    Calls Try.prog 35 #[.pointer (some ⟨R.gb, 0, none⟩), .agg #[.int .i64 xs, .int .u64 xq], .agg #[.int .i64 ys, .int .u64 yq]] w fun e w' => e = .returned (.int .i64 (relF g xs xq ys yq)) ∧ Below w.heap.size w w' := by
  obtain ⟨wA, hwA⟩ : ∃ wA, wA = (w.alloc (.cells #[.int .i64 (xs : Int), .int .u64 (xq : Int)] 50)).alloc (.cells #[.int .i64 (ys : Int), .int .u64 (yq : Int)] 50) := ⟨_, rfl⟩
  have bA : Below w.heap.size w wA := by rw [hwA]; exact ((Below.refl _ _).alloc (Nat.le_refl _) _).alloc (by simp) _
  have GA : GC wA R g := h.below bA
  have EX : ES R w.heap.size xs xq wA := by rw [hwA]; exact (ES.made2 h xs xq ys yq).1
  have EY : ES R (w.heap.size + 1) ys yq wA := by rw [hwA]; exact (ES.made2 h xs xq ys yq).2
  have HN : Hid (wA = (w.alloc (.cells #[.int .i64 (xs : Int), .int .u64 (xq : Int)] 50)).alloc (.cells #[.int .i64 (ys : Int), .int .u64 (yq : Int)] 50)) := hwA
  have HE : Hid (¬ (xs = ys ∧ xq = yq)) := by
    show ¬ (xs = ys ∧ xq = yq)
    rintro ⟨rfl, rfl⟩
    simp at hb
  clear hwA
  rcases hb with hb | ⟨hb, hb2⟩
  all_goals
    go_enter Try.func35, Try.ntmps35
    go_wp2_with fail
    rw [← HN.out]
    refine (in_any g R wA xs xq ys yq GA ok hx hy).mono ?_
    rintro e w1 ⟨rfl, hb1⟩
    have G1 := GA.below hb1
    have EX1 := EX.below hb1
    have EY1 := EY.below hb1
    have bb1 : Below w.heap.size w w1 := bA.trans (hb1.mono bA.size)
    have c0 := EX1.c0
    have c1 := EX1.c1
    have c2 := EY1.c0
    have c3 := EY1.c1
    obtain ⟨p1, p2, hp⟩ : ∃ p1 p2, (inF g xs xq ys yq) = (p1, p2) := ⟨_, _, rfl⟩
    have HP : Hid ((inF g xs xq ys yq) = (p1, p2)) := hp
    rw [hp]
    clear GA EX EY bA hb1 EX1 EY1 hp
    go_wp2_with fail
    refine (in_any g R w1 ys yq xs xq G1 ok hy hx).mono ?_
    rintro e w2 ⟨rfl, hb2'⟩
    have bb2 : Below w.heap.size w w2 := bb1.trans (hb2'.mono bb1.size)
    obtain ⟨q1, q2, hq⟩ : ∃ q1 q2, (inF g ys yq xs xq) = (q1, q2) := ⟨_, _, rfl⟩
    have HQ : Hid ((inF g ys yq xs xq) = (q1, q2)) := hq
    rw [hq]
    clear c0 c1 c2 c3 hq G1 hb2' bb1
    have HR : Hid (relF g xs xq ys yq = if p1 then 1 else if q1 then 2 else if p2 && q2 then 3 else 5) := by
      show relF g xs xq ys yq = _
      rw [relF, if_neg HE.out, HP.out, HQ.out]
    cases p1 <;> cases q1 <;> cases p2 <;> cases q2
    all_goals
      go_wp2_with fail
      go_ret
      exact ⟨by rw [HR.out]; rfl, bb2⟩

set_option maxHeartbeats 1000000 in
theorem relation_any (g : GS) (R : Rep) (w : World) (xs xq ys yq : Nat) (h : GC w R g) (ok : GOk g) (hx : Msg g xs xq) (hy : Msg g ys yq) :
    Calls Try.prog 35 #[.pointer (some ⟨R.gb, 0, none⟩), .agg #[.int .i64 xs, .int .u64 xq], .agg #[.int .i64 ys, .int .u64 yq]] w fun e w' => e = .returned (.int .i64 (relF g xs xq ys yq)) ∧ Below w.heap.size w w' := by
  by_cases h1 : xs = ys
  · by_cases h2 : xq = yq
    · subst h1 h2
      have HR : Hid (relF g xs xq xs xq = 4) := by show relF _ _ _ _ _ = _; rw [relF, if_pos ⟨rfl, rfl⟩]
      go_enter Try.func35, Try.ntmps35
      go_wp2_with fail
      go_ret
      exact ⟨by rw [HR.out]; rfl, ((Below.refl _ _).alloc (Nat.le_refl _) _).alloc (by simp) _⟩
    · exact relation_ne g R w xs xq ys yq h ok hx hy (.inr ⟨by simp [h1], by simp; omega⟩)
  · exact relation_ne g R w xs xq ys yq h ok hx hy (.inl (by simp; omega))

set_option maxHeartbeats 1000000 in
theorem zzin_any (g : GS) (R : Rep) (w : World) (xs xq ys yq : Nat) (h : GC w R g) (ok : GOk g) (hx : Msg g xs xq) (hy : Msg g ys yq) :
    Calls Try.prog 22 #[.pointer (some ⟨R.gb, 0, none⟩), .int .i64 xs, .int .u64 xq, .int .i64 ys, .int .u64 yq] w fun e w' => e = .returned (.tuple #[.bool (inF g xs xq ys yq).1, .bool (inF g xs xq ys yq).2]) ∧ Below w.heap.size w w' := by
  go_enter Try.func22, Try.ntmps22
  go_wp2_with fail
  refine (in_any g R w xs xq ys yq h ok hx hy).mono ?_
  rintro e w1 ⟨rfl, hb1⟩
  go_wp2_with fail
  go_ret2
  exact ⟨rfl, hb1⟩

set_option maxHeartbeats 1000000 in
theorem zzrel_any (g : GS) (R : Rep) (w : World) (xs xq ys yq : Nat) (h : GC w R g) (ok : GOk g) (hx : Msg g xs xq) (hy : Msg g ys yq) :
    Calls Try.prog 25 #[.pointer (some ⟨R.gb, 0, none⟩), .int .i64 xs, .int .u64 xq, .int .i64 ys, .int .u64 yq] w fun e w' => e = .returned (.int .i64 (relF g xs xq ys yq)) ∧ Below w.heap.size w w' := by
  go_enter Try.func25, Try.ntmps25
  go_wp2_with fail
  refine (relation_any g R w xs xq ys yq h ok hx hy).mono ?_
  rintro e w1 ⟨rfl, hb1⟩
  go_wp2_with fail
  go_ret
  exact ⟨rfl, hb1⟩

set_option maxHeartbeats 1000000 in
theorem zzlower_any (g : GS) (R : Rep) (w : World) (s q : Nat) (h : GC w R g) (ok : GOk g) (hs : s < g.n) (h1 : g.first s ≤ q) (h2 : q ≤ g.cnt s) :
    Calls Try.prog 14 #[.pointer (some ⟨R.gb, 0, none⟩), .int .i64 s, .int .u64 q] w fun e w' => e = .returned (lowV R g s q) ∧ Below w.heap.size w w' := by
  go_enter Try.func14, Try.ntmps14
  go_wp2_with fail
  refine (lower_g h ok hs h1 h2).mono ?_
  rintro e w1 ⟨rfl, hb1⟩
  go_wp2_with fail
  go_ret
  exact ⟨rfl, hb1⟩

set_option maxHeartbeats 1000000 in
theorem zzupper_any (g : GS) (R : Rep) (w : World) (s q : Nat) (h : GC w R g) (ok : GOk g) (hs : s < g.n) (h1 : g.first s ≤ q) (h2 : q ≤ g.cnt s) :
    Calls Try.prog 15 #[.pointer (some ⟨R.gb, 0, none⟩), .int .i64 s, .int .u64 q] w fun e w' => e = .returned (upV R g s q) ∧ Below w.heap.size w w' := by
  go_enter Try.func15, Try.ntmps15
  go_wp2_with fail
  refine (upper_g h ok hs h1 h2).mono ?_
  rintro e w1 ⟨rfl, hb1⟩
  go_wp2_with fail
  go_ret
  exact ⟨rfl, hb1⟩

/-- zzMirrored. -/
def mirF (a b : Int) : Bool := if a == 1 then b == 2 else if a == 2 then b == 1 else if a == 3 || a == 4 || a == 5 then b == a else false

set_option maxHeartbeats 1000000 in
theorem mirrored_any (a b : Nat) (ha : 1 ≤ a ∧ a ≤ 5) (hb : 1 ≤ b ∧ b ≤ 5) (w : World) : Calls Try.prog 28 #[.int .i64 a, .int .i64 b] w fun e w' => e = .returned (.bool (mirF a b)) ∧ w' = w := by
  obtain ⟨ha1, ha2⟩ := ha
  obtain ⟨hb1, hb2⟩ := hb
  have va : a = 1 ∨ a = 2 ∨ a = 3 ∨ a = 4 ∨ a = 5 := by omega
  have vb : b = 1 ∨ b = 2 ∨ b = 3 ∨ b = 4 ∨ b = 5 := by omega
  clear ha1 ha2 hb1 hb2
  rcases va with rfl | rfl | rfl | rfl | rfl <;> rcases vb with rfl | rfl | rfl | rfl | rfl
  all_goals
    go_enter Try.func28, Try.ntmps28
    go_wp2
    go_ret
    exact ⟨rfl, rfl⟩

end Go.Proofs.Qxb6605249a

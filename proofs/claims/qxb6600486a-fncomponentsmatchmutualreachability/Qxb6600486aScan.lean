/-
  THE WALKS OF THE SIZE TEST (8, 15), OF endpointsIn (9) AND OF hasEdge (18).
-/
import Derived.Test.Qxb6600486aGraph
import Derived.BigQuiet
set_option linter.unusedVariables false
set_option linter.unusedSimpArgs false
namespace Go.Proofs.Qxb6600486a
open Go.RowKit

/-- It answers a bool and touches nothing. -/
def BoolQ (w : World) (e : Ending) (w' : World) : Prop := ∃ b, e = .returned (.bool b) ∧ ∃ m, w' = w.drewN m

theorem bytes15 (w : World) (v0 : Value) (a : Option Addr) (l c : Nat) : Calls Try.prog 15 #[v0, .slice a l c] w fun e w' => BoolQ w e w' := by
  go_enter Try.func15, Try.ntmps15
  by_cases h1 : (1048576 : Int) < (l : Int)
  · go_wp2
    go_ret
    exact ⟨_, rfl, 0, rfl⟩
  · go_wp2
    go_ret
    exact ⟨_, rfl, 0, rfl⟩

theorem bytes8 (w : World) (v0 : Value) (a : Option Addr) (l c : Nat) : Calls Try.prog 8 #[v0, .slice a l c] w fun e w' => BoolQ w e w' := by
  go_enter Try.func8, Try.ntmps8
  by_cases h1 : (1048576 : Int) < (l : Int)
  · go_wp2
    go_ret
    exact ⟨_, rfl, 0, rfl⟩
  · go_wp2
    go_ret
    exact ⟨_, rfl, 0, rfl⟩

/-- The slice of edges as it came in: nil or not. -/
structure Ints (w : World) (B : Nat) (a : Option Addr) (l : Nat) (E : Nat → Int) : Prop where
  at_ : 0 < l → ∃ b o, a = some ⟨b, o, none⟩ ∧ b < B ∧ ∀ k, k < l → w.cell? ⟨b, o + k, none⟩ = some (.int .i64 (E k))

theorem Ints.below {w w' : World} {B B' : Nat} {a : Option Addr} {l : Nat} {E : Nat → Int} (h : Ints w B a l E) (hb : Below B' w w') (hB : B ≤ B') : Ints w' B a l E :=
  ⟨fun h0 => by
    obtain ⟨b, o, h1, h2, h3⟩ := h.at_ h0
    exact ⟨b, o, h1, h2, fun k hk => by rw [hb.cell (p := ⟨b, o + k, none⟩) (Nat.lt_of_lt_of_le h2 hB)]; exact h3 k hk⟩⟩

def EndQ (w : World) (n : Int) (l : Nat) (E : Nat → Int) (e : Ending) (w' : World) : Prop :=
  ∃ b, e = .returned (.bool b) ∧ (b = true → ∀ i, 2 * i + 1 < l → 0 ≤ E (2 * i) ∧ E (2 * i) < n ∧ 0 ≤ E (2 * i + 1) ∧ E (2 * i + 1) < n) ∧ ∃ m, w' = w.drewN m

theorem end_no {w : World} {n : Int} {l : Nat} {E : Nat → Int} (m : Nat) : EndQ w n l E (.returned (.bool false)) (w.drewN m) := ⟨false, rfl, (fun h => by simp at h), m, rfl⟩

set_option maxRecDepth 100000 in
set_option maxHeartbeats 1000000 in
theorem ends_any (w : World) (B : Nat) (n : Int) (a : Option Addr) (l c : Nat) (E : Nat → Int) (hE : Ints w B a l E) (hl : l ≤ 8192) :
    Calls Try.prog 9 #[.int .i64 n, .slice a l c] w fun e w' => EndQ w n l E e w' := by
  go_enter Try.func9, Try.ntmps9
  go_wp2
  go_loopg [5] l (fun gk t wr => ∃ k : Nat, k + gk = l ∧ t = .int .i64 (2 * (k : Int)) ∧ (∀ i, i < k → 0 ≤ E (2 * i) ∧ E (2 * i) < n ∧ 0 ≤ E (2 * i + 1) ∧ E (2 * i + 1) < n) ∧ ∃ m, wr = w.drewN m)
  case atStart => exact ⟨0, by omega, rfl, fun i hi => by omega, 0, rfl⟩
  case round =>
    obtain ⟨k, hk, rfl, hal, m, rfl⟩ := hrel
    have HA : Hid (∀ i, i < k → 0 ≤ E (2 * i) ∧ E (2 * i) < n ∧ 0 ≤ E (2 * i + 1) ∧ E (2 * i + 1) < n) := hal
    clear hal
    by_cases hlt : 2 * k + 1 < l
    · obtain ⟨b, o, rfl, -, hc⟩ := hE.at_ (by omega)
      have d0 := hc (2 * k) (by omega)
      have d1 := hc (2 * k + 1) (by omega)
      obtain ⟨x, hx⟩ : ∃ x, x = E (2 * k) := ⟨_, rfl⟩
      obtain ⟨y, hy⟩ : ∃ y, y = E (2 * k + 1) := ⟨_, rfl⟩
      rw [← hx] at d0
      rw [← hy] at d1
      have HXY : Hid (x = E (2 * k) ∧ y = E (2 * k + 1)) := ⟨hx, hy⟩
      clear hc hE hx hy
      have hlt' : 2 * (k : Int) + 1 < (l : Int) := by omega
      obtain ⟨p, hp⟩ : ∃ p, p = 2 * k := ⟨_, rfl⟩
      rw [← hp] at d0 d1
      have hp' : 2 * (k : Int) = (p : Int) := by omega
      rw [hp']
      have HP : Hid (p = 2 * k) := hp
      have hpl : (p : Int) + 1 < (l : Int) := by omega
      clear hp hp' hlt'
      by_cases h1 : x < 0
      · go_wp2
        go_ret
        exact end_no _
      by_cases h2 : x < n
      case neg =>
        go_wp2
        go_ret
        exact end_no _
      by_cases h3 : y < 0
      · go_wp2
        go_ret
        exact end_no _
      by_cases h4 : y < n
      case neg =>
        go_wp2
        go_ret
        exact end_no _
      go_wp2
      go_roundg (gk - 1)
      case measure => omega
      case rel =>
        refine ⟨k + 1, by omega, ?_, fun i hi => ?_, _, rfl⟩
        · have := HP.out
          go_num
        · by_cases e : i = k
          · subst e
            rw [← HXY.out.1, ← HXY.out.2]
            omega
          · exact HA.out i (by omega)
    · have hlt' : ¬ 2 * (k : Int) + 1 < (l : Int) := by omega
      clear hE
      go_wp2
      go_ret
      exact ⟨true, rfl, (fun _ i hi => HA.out i (by omega)), _, rfl⟩

/-- The slices first and succ in memory. -/
structure Rows (w : World) (fb gb n m : Nat) (F G : Nat → Nat) : Prop where
  f : w.rowIs fb 3 (n + 1) (fun v => iv (F v))
  g : w.rowIs gb 3 m (fun e => iv (G e))

theorem Rows.below {w w' : World} {fb gb n m : Nat} {F G : Nat → Nat} (h : Rows w fb gb n m F G) (hb : Below w.heap.size w w') : Rows w' fb gb n m F G :=
  ⟨h.f.of_block (hb.block _ h.f.lt), h.g.of_block (hb.block _ h.g.lt)⟩

set_option maxRecDepth 100000 in
set_option maxHeartbeats 1000000 in
theorem hasEdge_any (w : World) (fb gb n m u x : Nat) (A : Nat → Nat → Prop) (F G : Nat → Nat) (hR : Rows w fb gb n m F G) (hC : CSR n m A F G) (hn : n ≤ 4096) (hm : m ≤ 4096) (hu : u < n) (hA : A u x) :
    Calls Try.prog 18 #[.slice (some ⟨fb, 0, none⟩) (n + 1) (n + 1), .slice (some ⟨gb, 0, none⟩) m m, .int .i64 u, .int .i64 x] w fun e w' => e = .returned (.bool true) ∧ ∃ k, w' = w.drewN k := by
  obtain ⟨e0, h1, h2, h3⟩ := hC.cmp u hu x hA
  have t1 := hC.top (u + 1) (by omega)
  have c1 : w.cell? ⟨fb, u, none⟩ = some (.int .i64 (F u)) := hR.f.cell (by omega)
  have c2 : w.cell? ⟨fb, u + 1, none⟩ = some (.int .i64 (F (u + 1))) := hR.f.cell (by omega)
  have hun : (u : Int) < ((n : Int) + 1) := by omega
  have hun2 : (u : Int) + 1 < ((n : Int) + 1) := by omega
  obtain ⟨f1, hf1⟩ : ∃ f1, f1 = F (u + 1) := ⟨_, rfl⟩
  rw [← hf1] at c2 h2 t1
  obtain ⟨f0, hf0⟩ : ∃ f0, f0 = F u := ⟨_, rfl⟩
  rw [← hf0] at c1 h1
  clear hf1 hf0
  go_enter Try.func18, Try.ntmps18
  go_wp2
  go_loopg [9] (e0 - f0) (fun gk t wr => ∃ k : Nat, k + gk = e0 ∧ f0 ≤ k ∧ t = .int .i64 k ∧ ∃ m, wr = w.drewN m)
  case atStart => exact ⟨f0, by omega, by omega, rfl, 0, rfl⟩
  case round =>
    obtain ⟨k, hk, hk2, rfl, mm, rfl⟩ := hrel
    have c3 : w.cell? ⟨gb, k, none⟩ = some (.int .i64 (G k)) := hR.g.cell (by omega)
    have hkf : (k : Int) < (f1 : Int) := by omega
    have hkm : (k : Int) < (m : Int) := by omega
    by_cases e : G k = x
    · have d : ((G k : Int) == (x : Int)) = true := by simp [e]
      clear e hR hC h3
      go_wp2
      go_ret
      exact ⟨rfl, _, rfl⟩
    · have d : ((G k : Int) == (x : Int)) = false := by rw [beq_eq_false_iff_ne]; omega
      have hne : k ≠ e0 := fun e2 => e (by rw [e2]; exact h3)
      clear e hR hC h3
      go_wp2
      go_roundg (gk - 1)
      case measure => omega
      case rel => exact ⟨k + 1, by omega, by omega, by go_num, _, rfl⟩

end Go.Proofs.Qxb6600486a

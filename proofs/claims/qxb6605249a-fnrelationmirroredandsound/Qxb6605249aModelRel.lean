/-
  THE WALK OF zzModelRelation.
-/
import Derived.Test.Qxb6605249aReach
set_option linter.unusedVariables false
set_option linter.unusedSimpArgs false
namespace Go.Proofs.Qxb6605249a
open Go.RowKit

/-- How a stands to b, as the paths have it. -/
def MRel (E : Nat → Nat → Prop) (a b : Nat) (r : Nat) : Prop :=
  (a = b ∧ r = 4) ∨ (a ≠ b ∧ Reach E b a ∧ r = 1) ∨ (a ≠ b ∧ ¬ Reach E b a ∧ Reach E a b ∧ r = 2) ∨ (a ≠ b ∧ ¬ Reach E b a ∧ ¬ Reach E a b ∧ r = 3)

set_option maxRecDepth 100000 in
set_option maxHeartbeats 2000000 in
theorem modelRel_any (I : Inp) (n B : Nat) (J S : Nat → Nat) (X Y : Nat → Nat → Nat) (w : World) (hI : In w B I (fun i => (J i : Int)) S (fun i k => (X i k : Int)) Y) (hB : B ≤ w.heap.size)
    (hV : Valid n I.L J S I.bL X Y) (hq : ∀ i, i < I.L → I.qL i = I.bL i) (hm : ∀ i, i < I.L → I.bL i ≤ 1048576) (hn2 : n ≤ 4096) (hL : I.L ≤ 4096)
    (pb : Nat) (A : Nat → Option Addr) (C : Nat → Nat) (hP : PosT w pb n I.L J A C) (a b : Nat) (ha : a < I.L) (hb : b < I.L) :
    Calls Try.prog 26 #[I.js, I.seqs, I.bs, I.bq, .slice (some ⟨pb, 0, none⟩) n n, .int .i64 a, .int .i64 b] w fun e w' => ∃ r : Nat, e = .returned (.int .i64 r) ∧ MRel (EdgeP I.L J S I.bL X Y) a b r ∧ Below w.heap.size w w' := by
  have call : ∀ w1, Below w.heap.size w w1 → ∀ f, f < I.L → Calls Try.prog 17 #[I.js, I.seqs, I.bs, I.bq, .slice (some ⟨pb, 0, none⟩) n n, .int .i64 f] w1 fun e w' => e = .returned (.slice (some ⟨w1.heap.size, 0, none⟩) I.L I.L) ∧
      (∃ sn : Nat → Bool, w'.rowIs w1.heap.size 4 I.L (fun i => .bool (sn i)) ∧ ∀ i, i < I.L → (sn i = true ↔ Reach (EdgeP I.L J S I.bL X Y) f i)) ∧ Below w1.heap.size w1 w' := fun w1 hw f hf =>
    reach_any I n B J S X Y w1 (hI.below hw hB) (Nat.le_trans hB hw.size) hV hq hm hn2 hL pb A C (hP.below hw) f hf
  have HC := (show Hid _ from call)
  obtain ⟨vj, hvj⟩ : ∃ v, v = I.js := ⟨_, rfl⟩
  obtain ⟨vs, hvs⟩ : ∃ v, v = I.seqs := ⟨_, rfl⟩
  obtain ⟨vb, hvb⟩ : ∃ v, v = I.bs := ⟨_, rfl⟩
  obtain ⟨vq, hvq⟩ : ∃ v, v = I.bq := ⟨_, rfl⟩
  obtain ⟨L, hLL⟩ : ∃ L, L = I.L := ⟨_, rfl⟩
  rw [← hvj, ← hvs, ← hvb, ← hvq, ← hLL] at HC
  rw [← hvj, ← hvs, ← hvb, ← hvq]
  rw [← hLL] at hL ha hb ⊢
  clear call hI hV hq hm hP hvj hvs hvb hvq hLL
  have ha' : (a : Int) < (L : Int) := by omega
  have hb' : (b : Int) < (L : Int) := by omega
  go_enter Try.func26, Try.ntmps26
  by_cases hab : a = b
  · have d : ((a : Int) == (b : Int)) = true := by simp [hab]
    have HE : Hid (a = b) := hab
    clear hab HC
    go_wp2_with fail
    go_ret
    exact ⟨4, rfl, .inl ⟨HE.out, rfl⟩, Below.refl _ _⟩
  have d : ((a : Int) == (b : Int)) = false := by rw [beq_eq_false_iff_ne]; omega
  have HE : Hid (¬ a = b) := hab
  clear hab
  go_wp2_with fail
  refine (HC.out w (Below.refl _ _) b hb).mono ?_
  rintro e w1 ⟨rfl, ⟨sn, hrow, hsn⟩, hb1⟩
  have r1 := hrow.cell ha
  have H1 : Hid ((sn a = true ↔ Reach (EdgeP L J S I.bL X Y) b a) ∧ Below w.heap.size w w1) := ⟨hsn a ha, hb1⟩
  clear hrow hsn hb1
  cases hs : sn a with
  | true =>
    rw [hs] at r1
    have HS : Hid (sn a = true) := hs
    clear hs HC
    go_wp2_with fail
    go_ret
    exact ⟨1, rfl, .inr (.inl ⟨HE.out, H1.out.1.1 HS.out, rfl⟩), H1.out.2⟩
  | false =>
    rw [hs] at r1
    have HS : Hid (sn a = false) := hs
    clear hs
    go_wp2_with fail
    refine (HC.out w1 H1.out.2 a ha).mono ?_
    rintro e w2 ⟨rfl, ⟨sn2, hrow, hsn⟩, hb2⟩
    have r2 := hrow.cell hb
    have hb3 := H1.out.2.trans (hb2.mono H1.out.2.size)
    have H2 : Hid ((sn2 b = true ↔ Reach (EdgeP L J S I.bL X Y) a b) ∧ Below w.heap.size w w2) := ⟨hsn b hb, hb3⟩
    clear hrow hsn hb2 hb3 r1 HC
    have HN : Hid (¬ Reach (EdgeP L J S I.bL X Y) b a) := fun h => by have := H1.out.1.2 h; rw [HS.out] at this; exact absurd this (by simp)
    cases hs : sn2 b with
    | true =>
      rw [hs] at r2
      have HS : Hid (sn2 b = true) := hs
      clear hs
      go_wp2_with fail
      go_ret
      exact ⟨2, rfl, .inr (.inr (.inl ⟨HE.out, HN.out, H2.out.1.1 HS.out, rfl⟩)), H2.out.2⟩
    | false =>
      rw [hs] at r2
      have HS : Hid (sn2 b = false) := hs
      clear hs
      go_wp2_with fail
      go_ret
      exact ⟨3, rfl, .inr (.inr (.inr ⟨HE.out, HN.out, fun h => by have := H2.out.1.2 h; rw [HS.out] at this; exact absurd this (by simp), rfl⟩)), H2.out.2⟩

end Go.Proofs.Qxb6605249a

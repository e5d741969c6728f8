/-
  THE PATHS OF A VALID SCRIPT, PLAINLY.
-/
import Derived.Test.Qxb6605249aReachParts
import Derived.Test.Qxb6605249aPast
set_option linter.unusedVariables false
set_option linter.unusedSimpArgs false
namespace Go.Proofs.Qxb6605249a

theorem posTo_stable (J : Nat → Nat) (s k : Nat) : ∀ i L, i ≤ L → k < cntTo J i s → posTo J L s k = posTo J i s k
  | i, 0, h, _ => by have : i = 0 := by omega
                     rw [this]
  | i, L + 1, h, hk => by
    by_cases e : i = L + 1
    · rw [e]
    · have h1 : i ≤ L := by omega
      have h2 := cntTo_mono J s i L h1
      rw [posTo, if_neg (by omega)]
      exact posTo_stable J s k i L h1 hk

theorem cntTo_succ_self (J : Nat → Nat) (i : Nat) : cntTo J (i + 1) (J i) = cntTo J i (J i) + 1 := by rw [cntTo, if_pos rfl]

/-- The place of message q of sender s. -/
def At (J : Nat → Nat) (L s q : Nat) : Nat := posTo J L s (q - 1)

section
variable {n L : Nat} {J S m : Nat → Nat} {X Y : Nat → Nat → Nat}

theorem Valid.lt_cnt (hV : Valid n L J S m X Y) {p i : Nat} (hp : p < i) (hi : p < L) : S p ≤ cntTo J i (J p) := by
  have h1 := hV.s p hi
  have h2 := cntTo_succ_self J p
  have h3 := cntTo_mono J (J p) (p + 1) i hp
  omega

theorem Valid.at_law (hV : Valid n L J S m X Y) {i s q : Nat} (hi : i ≤ L) (h1 : 1 ≤ q) (h2 : q ≤ cntTo J i s) : At J L s q < i ∧ J (At J L s q) = s ∧ S (At J L s q) = q := by
  have k : q - 1 < cntTo J i s := by omega
  have e := posTo_stable J s (q - 1) i L hi k
  have l := posTo_law J s (q - 1) i k
  unfold At
  rw [e]
  refine ⟨l.1, l.2.1, ?_⟩
  have := hV.s (posTo J i s (q - 1)) (by omega)
  rw [l.2.1, l.2.2] at this
  omega

theorem Valid.inj (hV : Valid n L J S m X Y) {p r : Nat} (hp : p < L) (hr : r < L) (hJ : J p = J r) (hS : S p = S r) : p = r := by
  have key : ∀ {a b : Nat}, a < b → b < L → J a = J b → S a < S b := fun {a b} hab hb e => by
    have h1 := hV.lt_cnt (p := a) hab (by omega)
    have h2 := hV.s b hb
    rw [e] at h1
    omega
  rcases Nat.lt_trichotomy p r with h | h | h
  · have := key h hr hJ; omega
  · exact h
  · have := key h hp hJ.symm; omega

theorem Valid.mono (hV : Valid n L J S m X Y) {p r : Nat} (hp : p < L) (h : r ≤ p) (hJ : J r = J p) : S r ≤ S p := by
  by_cases e : r = p
  · rw [e]; exact Nat.le_refl _
  · have h1 := hV.lt_cnt (p := r) (i := p) (by omega) (by omega)
    have h2 := hV.s p hp
    rw [hJ] at h1
    omega

theorem Valid.at_self (hV : Valid n L J S m X Y) {p : Nat} (hp : p < L) : At J L (J p) (S p) = p := by
  have h1 := hV.s p hp
  have h2 := hV.at_law (Nat.le_refl L) (s := J p) (q := S p) (by omega) (hV.lt_cnt hp hp)
  exact hV.inj (by omega) hp h2.2.1 h2.2.2

theorem Valid.edge_lt (hV : Valid n L J S m X Y) {i p : Nat} (hi : i < L) (e : EdgeP L J S m X Y i p) : p < i := by
  rcases e with ⟨h1, rfl⟩ | ⟨k, hk, rfl⟩
  · have hs := hV.s i hi
    have := (hV.at_law (Nat.le_of_lt hi) (s := J i) (q := S i - 1) (by omega) (by omega)).1
    unfold At at this
    rw [show S i - 1 - 1 = S i - 2 from by omega] at this
    exact this
  · have hx := hV.x i hi k hk
    exact (hV.at_law (Nat.le_of_lt hi) (s := X i k) (q := Y i k) hx.2.1 hx.2.2).1

theorem Valid.reach_le (hV : Valid n L J S m X Y) {p r : Nat} (hp : p < L) (h : Reach (EdgeP L J S m X Y) p r) : r ≤ p :=
  h (fun x => x ≤ p) (Nat.le_refl _) (fun x y hx e => by
    have hx' : x ≤ p := hx
    have := hV.edge_lt (by omega) e
    show y ≤ p
    omega)

theorem Valid.prev (hV : Valid n L J S m X Y) {p : Nat} (hp : p < L) (h1 : 1 < S p) : EdgeP L J S m X Y p (At J L (J p) (S p - 1)) :=
  .inl ⟨h1, by unfold At; rw [show S p - 1 - 1 = S p - 2 from by omega]⟩

theorem Valid.chain (hV : Valid n L J S m X Y) {s : Nat} : ∀ d q, 1 ≤ q → q + d ≤ cntTo J L s → Reach (EdgeP L J S m X Y) (At J L s (q + d)) (At J L s q)
  | 0, q, h1, h2 => Reach.refl _
  | d + 1, q, h1, h2 => by
    have a := hV.at_law (Nat.le_refl L) (s := s) (q := q + (d + 1)) (by omega) h2
    have e := hV.prev a.1 (by omega)
    rw [a.2.1, a.2.2] at e
    have := hV.chain (s := s) d q h1 (by omega)
    exact ((Reach.refl _).step e).trans (by rw [show q + (d + 1) - 1 = q + d from by omega]; exact this)

theorem Valid.chain' (hV : Valid n L J S m X Y) {s q q' : Nat} (h1 : 1 ≤ q') (h : q' ≤ q) (h2 : q ≤ cntTo J L s) : Reach (EdgeP L J S m X Y) (At J L s q) (At J L s q') := by
  have := hV.chain (s := s) (q - q') q' h1 (by omega)
  rwa [show q' + (q - q') = q from by omega] at this

theorem Reach.head {E : Nat → Nat → Prop} {a b : Nat} (h : Reach E a b) : b = a ∨ ∃ p, E a p ∧ Reach E p b :=
  h (fun x => x = a ∨ ∃ p, E a p ∧ Reach E p x) (.inl rfl) (fun x y hx e => by
    rcases hx with rfl | ⟨p, h1, h2⟩
    · exact .inr ⟨y, e, Reach.refl _⟩
    · exact .inr ⟨p, h1, h2.step e⟩)

/-- Bounds cover all that is reached from p. -/
def Cov (E : Nat → Nat → Prop) (J S : Nat → Nat) (p : Nat) (b : Nat → Nat) : Prop := ∀ r, Reach E p r → S r ≤ b (J r)

theorem Cov.mono {E : Nat → Nat → Prop} {J S : Nat → Nat} {p : Nat} {b b' : Nat → Nat} (h : Cov E J S p b) (hb : ∀ k, b k ≤ b' k) : Cov E J S p b' := fun r hr => Nat.le_trans (h r hr) (hb _)
theorem Cov.of_reach {E : Nat → Nat → Prop} {J S : Nat → Nat} {p q : Nat} {b : Nat → Nat} (h : Cov E J S p b) (hr : Reach E p q) : Cov E J S q b := fun r hq => h r (hr.trans hq)

theorem pastTo_ge (sn : Nat → Bool) (s : Nat) : ∀ i r, r < i → sn r = true → J r = s → S r ≤ pastTo J S sn i s
  | i + 1, r, hr, h1, h2 => by
    rw [pastTo]
    by_cases e : r = i
    · subst e
      split
      · exact Nat.le_refl _
      · next h => have : ¬ pastTo J S sn r s < S r := fun h3 => h ⟨h1, h2, h3⟩
                  omega
    · have := pastTo_ge sn s i r (by omega) h1 h2
      split
      · next h => omega
      · exact this

theorem pastTo_is (sn : Nat → Bool) (s : Nat) : ∀ i, pastTo J S sn i s = 0 ∨ ∃ r, r < i ∧ sn r = true ∧ J r = s ∧ S r = pastTo J S sn i s
  | 0 => .inl rfl
  | i + 1 => by
    rw [pastTo]
    split
    · next h => exact .inr ⟨i, by omega, h.1, h.2.1, rfl⟩
    · rcases pastTo_is sn s i with h | ⟨r, h1, h2⟩
      · exact .inl h
      · exact .inr ⟨r, by omega, h2⟩

end
end Go.Proofs.Qxb6605249a

/-
  THE GRAPH, PLAINLY: counting, places, paths, the form in which it is kept.
-/
import Derived.Test.Qxb6600486aBase
import Derived.Deep.LoopGhost
import Derived.Deep.QuietTactic
import Derived.BigQuiet
import Derived.BigRegion
import Derived.Deep.RegionLaw
import Derived.Deep.CutRange
import Derived.Deep.DeepCutAuto
import Derived.Deep.RegionHeld3
set_option linter.unusedVariables false
set_option linter.unusedSimpArgs false
namespace Go.Proofs.Qxb6600486a

/-- How many of the first i edges leave s. -/
def cntTo (J : Nat → Nat) : Nat → Nat → Nat
  | 0, _ => 0
  | i + 1, s => if J i = s then cntTo J i s + 1 else cntTo J i s

theorem cntTo_le (J : Nat → Nat) : ∀ i s, cntTo J i s ≤ i
  | 0, _ => Nat.le_refl _
  | i + 1, s => by have := cntTo_le J i s; unfold cntTo; split <;> omega

theorem cntTo_mono (J : Nat → Nat) (s : Nat) : ∀ i j, i ≤ j → cntTo J i s ≤ cntTo J j s
  | i, 0, h => by have : i = 0 := by omega
                  subst this; exact Nat.le_refl _
  | i, j + 1, h => by
    by_cases e : i = j + 1
    · rw [e]; exact Nat.le_refl _
    · have := cntTo_mono J s i j (by omega)
      refine Nat.le_trans this ?_
      rw [cntTo]; split <;> omega

theorem cntTo_self (J : Nat → Nat) (i : Nat) : cntTo J (i + 1) (J i) = cntTo J i (J i) + 1 := by rw [cntTo, if_pos rfl]

/-- Where the (k+1)-th edge of s stands among the first i. -/
def posTo (J : Nat → Nat) : Nat → Nat → Nat → Nat
  | 0, _, _ => 0
  | i + 1, s, k => if J i = s ∧ k = cntTo J i s then i else posTo J i s k

theorem posTo_law (J : Nat → Nat) (s k : Nat) : ∀ i, k < cntTo J i s → posTo J i s k < i ∧ J (posTo J i s k) = s ∧ cntTo J (posTo J i s k) s = k
  | 0, h => by rw [cntTo] at h; omega
  | i + 1, h => by
    rw [posTo]
    by_cases e : J i = s ∧ k = cntTo J i s
    · rw [if_pos e]; exact ⟨by omega, e.1, e.2.symm⟩
    · rw [if_neg e]
      have : k < cntTo J i s := by
        rw [cntTo] at h
        split at h
        · next h1 => by_cases e2 : k = cntTo J i s
                     · exact absurd ⟨h1, e2⟩ e
                     · omega
        · exact h
      have := posTo_law J s k i this
      exact ⟨by omega, this.2⟩

/-- The place of edge i is i. -/
theorem posTo_self (J : Nat → Nat) {m i : Nat} (hi : i < m) : posTo J m (J i) (cntTo J i (J i)) = i ∧ cntTo J i (J i) < cntTo J m (J i) := by
  have h1 := cntTo_self J i
  have h2 := cntTo_mono J (J i) (i + 1) m hi
  have h3 : cntTo J i (J i) < cntTo J m (J i) := by omega
  refine ⟨?_, h3⟩
  have l := posTo_law J (J i) (cntTo J i (J i)) m h3
  obtain ⟨p, hp⟩ : ∃ p, p = posTo J m (J i) (cntTo J i (J i)) := ⟨_, rfl⟩
  rw [← hp] at l ⊢
  rcases Nat.lt_trichotomy p i with h | h | h
  · have a := cntTo_self J p
    rw [l.2.1] at a
    have b := cntTo_mono J (J i) (p + 1) i h
    omega
  · exact h
  · have b := cntTo_mono J (J i) (i + 1) p h
    omega

/-- How many of the first i edges leave a node below v. -/
def pre (J : Nat → Nat) (i : Nat) : Nat → Nat
  | 0 => 0
  | v + 1 => pre J i v + cntTo J i v

theorem pre_zero (J : Nat → Nat) : ∀ v, pre J 0 v = 0
  | 0 => rfl
  | v + 1 => by rw [pre, pre_zero J v]; rfl

theorem pre_succ (J : Nat → Nat) (i : Nat) : ∀ v, pre J (i + 1) v = pre J i v + if J i < v then 1 else 0
  | 0 => by simp [pre]
  | v + 1 => by
    rw [pre, pre, pre_succ J i v, cntTo]
    by_cases e : J i = v
    · rw [if_pos e, if_neg (by omega), if_pos (by omega)]; omega
    · rw [if_neg e]
      by_cases h : J i < v
      · rw [if_pos h, if_pos (by omega)]; omega
      · rw [if_neg h, if_neg (by omega)]; omega

theorem pre_all (J : Nat → Nat) (n : Nat) : ∀ i, (∀ x, x < i → J x < n) → pre J i n = i
  | 0, _ => pre_zero J n
  | i + 1, h => by
    rw [pre_succ, pre_all J n i (fun x hx => h x (by omega)), if_pos (h i (by omega))]

theorem pre_mono (J : Nat → Nat) (i : Nat) : ∀ a b, a ≤ b → pre J i a ≤ pre J i b
  | a, 0, h => by have : a = 0 := by omega
                  subst this; exact Nat.le_refl _
  | a, b + 1, h => by
    by_cases e : a = b + 1
    · rw [e]; exact Nat.le_refl _
    · have := pre_mono J i a b (by omega)
      rw [pre]; omega

/-- F and G keep the graph A of n nodes, m edges. -/
structure CSR (n m : Nat) (A : Nat → Nat → Prop) (F G : Nat → Nat) : Prop where
  zero : F 0 = 0
  mono : ∀ v, v < n → F v ≤ F (v + 1)
  top : ∀ v, v ≤ n → F v ≤ m
  snd : ∀ v, v < n → ∀ e, F v ≤ e → e < F (v + 1) → G e < n ∧ A v (G e)
  cmp : ∀ v, v < n → ∀ w, A v w → ∃ e, F v ≤ e ∧ e < F (v + 1) ∧ G e = w

/-- There is an edge. -/
def Adj (m : Nat) (U V : Nat → Nat) (u w : Nat) : Prop := ∃ i, i < m ∧ U i = u ∧ V i = w

theorem csr_of {n m : Nat} {U V G : Nat → Nat} (hU : ∀ i, i < m → U i < n) (hV : ∀ i, i < m → V i < n) (hG : ∀ v, v < n → ∀ k, k < cntTo U m v → G (pre U m v + k) = V (posTo U m v k)) : CSR n m (Adj m U V) (pre U m) G :=
  { zero := rfl
    mono := fun v _ => by rw [pre]; omega
    top := fun v hv => by have := pre_mono U m v n hv; rw [pre_all U n m hU] at this; exact this
    snd := fun v hv e h1 h2 => by
      rw [pre] at h2
      obtain ⟨k, rfl⟩ : ∃ k, e = pre U m v + k := ⟨e - pre U m v, by omega⟩
      have hk : k < cntTo U m v := by omega
      rw [hG v hv k hk]
      have l := posTo_law U v k m hk
      exact ⟨hV _ l.1, _, l.1, l.2.1, rfl⟩
    cmp := fun v hv w ⟨i, hi, h1, h2⟩ => by
      subst h1
      have l := posTo_self U hi
      refine ⟨pre U m (U i) + cntTo U i (U i), by omega, by rw [pre]; omega, ?_⟩
      rw [hG _ hv _ l.2, l.1, h2] }

/-- From a one comes to b. -/
def Reach (E : Nat → Nat → Prop) (a b : Nat) : Prop := ∀ P : Nat → Prop, P a → (∀ x y, P x → E x y → P y) → P b

theorem Reach.refl {E : Nat → Nat → Prop} (a : Nat) : Reach E a a := fun _ h _ => h
theorem Reach.step {E : Nat → Nat → Prop} {a b c : Nat} (h : Reach E a b) (e : E b c) : Reach E a c := fun P h0 h1 => h1 b c (h P h0 h1) e
theorem Reach.trans {E : Nat → Nat → Prop} {a b c : Nat} (h : Reach E a b) (k : Reach E b c) : Reach E a c := fun P h0 h1 => k P (h P h0 h1) h1

/-- The reversed edges. -/
theorem reach_rev {m : Nat} {U V : Nat → Nat} {a b : Nat} (h : Reach (Adj m V U) a b) : Reach (Adj m U V) b a :=
  h (fun x => Reach (Adj m U V) x a) (Reach.refl _) (fun x y hx ⟨i, hi, e1, e2⟩ => ((Reach.refl y).step ⟨i, hi, e2, e1⟩).trans hx)

end Go.Proofs.Qxb6600486a

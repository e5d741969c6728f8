/-
  WHAT THE GRAPH RECORDS IS SOUND, AND EXACT WHERE NOTHING IS FORGOTTEN: PLAINLY.
-/
import Derived.Test.Qxb6605249aDag
import Derived.Test.Qxb6605249aRel
set_option linter.unusedVariables false
set_option linter.unusedSimpArgs false
namespace Go.Proofs.Qxb6605249a

structure Law (n keep L : Nat) (J S m : Nat → Nat) (X Y : Nat → Nat → Nat) (i : Nat) (g : GS) : Prop where
  dn : ∀ p, p < i → g.first (J p) ≤ S p → g.dn (J p) (S p) = p + 1
  low : ∀ p, p < i → g.first (J p) ≤ S p → ∀ k, k < n → ∀ q, 1 ≤ q → q ≤ g.L (J p) (S p) k → q ≤ cntTo J (p + 1) k ∧ Reach (EdgeP L J S m X Y) p (At J L k q)
  up : ∀ p, p < i → g.first (J p) ≤ S p → Cov (EdgeP L J S m X Y) J S p (g.U (J p) (S p))
  lim : ∀ p, p < i → g.first (J p) ≤ S p → ∀ k, k < n → g.U (J p) (S p) k ≤ cntTo J (p + 1) k
  fg : ∀ p, p < i → S p < g.first (J p) → p + 1 ≤ g.fgt ∧ keep ≤ i - (p + 1)
  ex : L ≤ keep → (∀ s, s < n → g.first s = 1) ∧ ∀ p, p < i → ∀ k, k < n → g.L (J p) (S p) k = g.U (J p) (S p) k

section
variable {n keep L : Nat} {J S m : Nat → Nat} {X Y : Nat → Nat → Nat}

/-- What is gathered for the i-th delivery: lo and hi. -/
structure Gath (n L : Nat) (J S m : Nat → Nat) (X Y : Nat → Nat → Nat) (i : Nat) (lo hi : Nat → Nat) : Prop where
  low : ∀ k, k < n → ∀ q, 1 ≤ q → q ≤ lo k → q ≤ cntTo J i k ∧ Reach (EdgeP L J S m X Y) i (At J L k q)
  cov : ∀ k, k < n → ∀ q, 1 ≤ q → q ≤ lo k → Cov (EdgeP L J S m X Y) J S (At J L k q) hi
  lim : ∀ k, k < n → hi k ≤ cntTo J i k

theorem cnt_kept {g : GS} (ok : GOk g) {s : Nat} (hs : s < g.n) (h : g.cnt s ≠ 0) : g.first s ≤ g.cnt s := ok.f2 s hs h

/-- A kept message's row joins. -/
theorem Gath.join {i : Nat} {g : GS} (hV : Valid n L J S m X Y) (hi : i < L) (hl : Law n keep L J S m X Y i g) {lo hi' : Nat → Nat} (h : Gath n L J S m X Y i lo hi') {p : Nat} (hp : p < i) (hk : g.first (J p) ≤ S p) (he : EdgeP L J S m X Y i p) :
    Gath n L J S m X Y i (fun k => max (lo k) (g.L (J p) (S p) k)) (fun k => max (hi' k) (g.U (J p) (S p) k)) ∧ Cov (EdgeP L J S m X Y) J S p (fun k => max (hi' k) (g.U (J p) (S p) k)) := by
  have hc : Cov (EdgeP L J S m X Y) J S p (fun k => max (hi' k) (g.U (J p) (S p) k)) := (hl.up p hp hk).mono fun k => Nat.le_max_right _ _
  refine ⟨{ low := fun k hk2 q h1 h2 => ?_, cov := fun k hk2 q h1 h2 => ?_, lim := fun k hk2 => ?_ }, hc⟩
  · rcases Nat.le_total q (lo k) with h3 | h3
    · exact h.low k hk2 q h1 h3
    · have h4 : q ≤ g.L (J p) (S p) k ∨ q ≤ lo k := by
        rcases Nat.le_total (lo k) (g.L (J p) (S p) k) with h5 | h5
        · left; rw [Nat.max_eq_right h5] at h2; exact h2
        · right; rw [Nat.max_eq_left h5] at h2; exact h2
      rcases h4 with h4 | h4
      · have := hl.low p hp hk k hk2 q h1 h4
        exact ⟨Nat.le_trans this.1 (cntTo_mono J k (p + 1) i hp), ((Reach.refl i).step he).trans this.2⟩
      · exact h.low k hk2 q h1 h4
  · have h4 : q ≤ g.L (J p) (S p) k ∨ q ≤ lo k := by
      rcases Nat.le_total (lo k) (g.L (J p) (S p) k) with h5 | h5
      · left; rw [Nat.max_eq_right h5] at h2; exact h2
      · right; rw [Nat.max_eq_left h5] at h2; exact h2
    rcases h4 with h4 | h4
    · exact hc.of_reach (hl.low p hp hk k hk2 q h1 h4).2
    · exact (h.cov k hk2 q h1 h4).mono fun k => Nat.le_max_left _ _
  · have h1 := h.lim k hk2
    have h2 := hl.lim p hp hk k hk2
    have h3 := cntTo_mono J k (p + 1) i hp
    show max (hi' k) (g.U (J p) (S p) k) ≤ cntTo J i k
    exact Nat.max_le.2 ⟨h1, by omega⟩

theorem gath0 {i : Nat} {g : GS} (hV : Valid n L J S m X Y) (hi : i < L) (hl : Law n keep L J S m X Y i g) (ok : GOk g) (hn : g.n = n) (hcnt : ∀ s, g.cnt s = cntTo J i s) :
    Gath n L J S m X Y i (lo0 g (J i) (S i)) (hi0 g (J i) (S i)) ∧ (1 < S i → Cov (EdgeP L J S m X Y) J S (At J L (J i) (S i - 1)) (hi0 g (J i) (S i))) := by
  have hs := hV.s i hi
  by_cases h1 : 1 < S i
  · have a := hV.at_law (Nat.le_of_lt hi) (s := J i) (q := S i - 1) (by omega) (by omega)
    have hk : g.first (J i) ≤ S i - 1 := by
      have := cnt_kept ok (s := J i) (by rw [hn]; exact hV.j i hi) (by rw [hcnt]; omega)
      rw [hcnt] at this
      omega
    have z : Gath n L J S m X Y i (fun _ => 0) (fun _ => 0) := { low := fun k _ q h1 h2 => by omega, cov := fun k _ q h1 h2 => by omega, lim := fun k _ => Nat.zero_le _ }
    have := Gath.join hV hi hl z a.1 (by rw [a.2.1, a.2.2]; exact hk) (hV.prev hi h1)
    rw [a.2.1, a.2.2] at this
    have e1 : (fun k => max 0 (g.L (J i) (S i - 1) k)) = lo0 g (J i) (S i) := by funext k; unfold lo0; rw [if_pos h1]; exact Nat.zero_max _
    have e2 : (fun k => max 0 (g.U (J i) (S i - 1) k)) = hi0 g (J i) (S i) := by funext k; unfold hi0; rw [if_pos h1]; exact Nat.zero_max _
    rw [e1, e2] at this
    exact ⟨this.1, fun _ => this.2⟩
  · refine ⟨{ low := fun k _ q h2 h3 => ?_, cov := fun k _ q h2 h3 => ?_, lim := fun k _ => ?_ }, fun h => absurd h h1⟩
    · unfold lo0 at h3; rw [if_neg h1] at h3; omega
    · unfold lo0 at h3; rw [if_neg h1] at h3; omega
    · unfold hi0; rw [if_neg h1]; exact Nat.zero_le _

theorem hi1_ge (g : GS) (A Q : Nat → Nat) (a : Nat → Nat) (k : Nat) : ∀ t, a k ≤ hi1 g A Q a t k
  | 0 => Nat.le_refl _
  | t + 1 => by
    have := hi1_ge g A Q a k t
    rw [hi1]
    split
    · exact Nat.le_trans this (Nat.le_max_left _ _)
    · exact this

theorem hi1_mono (g : GS) (A Q : Nat → Nat) (a : Nat → Nat) (k t : Nat) : hi1 g A Q a t k ≤ hi1 g A Q a (t + 1) k := by
  show _ ≤ (if g.first (A t) ≤ Q t then fun k => max (hi1 g A Q a t k) (g.U (A t) (Q t) k) else hi1 g A Q a t) k
  split
  · exact Nat.le_max_left _ _
  · exact Nat.le_refl _

theorem gath1 {i : Nat} {g : GS} (hV : Valid n L J S m X Y) (hi : i < L) (hl : Law n keep L J S m X Y i g) {lo hi' : Nat → Nat} (h : Gath n L J S m X Y i lo hi') : ∀ t, t ≤ m i →
    Gath n L J S m X Y i (lo1 g (X i) (Y i) lo t) (hi1 g (X i) (Y i) hi' t) ∧ ∀ k, k < t → g.first (X i k) ≤ Y i k → Cov (EdgeP L J S m X Y) J S (At J L (X i k) (Y i k)) (hi1 g (X i) (Y i) hi' t)
  | 0, _ => ⟨h, fun k hk => by omega⟩
  | t + 1, ht => by
    have ih := gath1 hV hi hl h t (by omega)
    have hx := hV.x i hi t (by omega)
    have a := hV.at_law (Nat.le_of_lt hi) (s := X i t) (q := Y i t) hx.2.1 hx.2.2
    by_cases hk : g.first (X i t) ≤ Y i t
    · have e1 : lo1 g (X i) (Y i) lo (t + 1) = fun k => max (lo1 g (X i) (Y i) lo t k) (g.L (X i t) (Y i t) k) := by rw [lo1, if_pos hk]
      have e2 : hi1 g (X i) (Y i) hi' (t + 1) = fun k => max (hi1 g (X i) (Y i) hi' t k) (g.U (X i t) (Y i t) k) := by rw [hi1, if_pos hk]
      have := Gath.join hV hi hl ih.1 a.1 (by rw [a.2.1, a.2.2]; exact hk) (.inr ⟨t, by omega, rfl⟩)
      rw [a.2.1, a.2.2] at this
      rw [e1, e2]
      refine ⟨this.1, fun k hk2 hk3 => ?_⟩
      by_cases e : k = t
      · rw [e]; exact this.2
      · exact (ih.2 k (by omega) hk3).mono fun k => Nat.le_max_left _ _
    · have e1 : lo1 g (X i) (Y i) lo (t + 1) = lo1 g (X i) (Y i) lo t := by rw [lo1, if_neg hk]
      have e2 : hi1 g (X i) (Y i) hi' (t + 1) = hi1 g (X i) (Y i) hi' t := by rw [hi1, if_neg hk]
      rw [e1, e2]
      refine ⟨ih.1, fun k hk2 hk3 => ?_⟩
      by_cases e : k = t
      · rw [e] at hk3; exact absurd hk3 hk
      · exact ih.2 k (by omega) hk3

theorem gath2 {i : Nat} {g : GS} (hV : Valid n L J S m X Y) (hi : i < L) (hl : Law n keep L J S m X Y i g) (ok : GOk g) (hn : g.n = n) (hcnt : ∀ s, g.cnt s = cntTo J i s) {lo hi' : Nat → Nat} (h : Gath n L J S m X Y i lo hi') : ∀ t, t ≤ m i →
    Gath n L J S m X Y i (lh2 g (X i) (Y i) lo hi' t).1 (lh2 g (X i) (Y i) lo hi' t).2 ∧ (∀ k, hi' k ≤ (lh2 g (X i) (Y i) lo hi' t).2 k) ∧ ∀ k, k < t → ¬ g.first (X i k) ≤ Y i k → Cov (EdgeP L J S m X Y) J S (At J L (X i k) (Y i k)) (lh2 g (X i) (Y i) lo hi' t).2
  | 0, _ => ⟨h, fun _ => Nat.le_refl _, fun k hk => by omega⟩
  | t + 1, ht => by
    obtain ⟨i1, i2, i3⟩ := gath2 hV hi hl ok hn hcnt h t (by omega)
    have hx := hV.x i hi t (by omega)
    have a := hV.at_law (Nat.le_of_lt hi) (s := X i t) (q := Y i t) hx.2.1 hx.2.2
    obtain ⟨l, hll⟩ : ∃ l, l = (lh2 g (X i) (Y i) lo hi' t).1 := ⟨_, rfl⟩
    obtain ⟨u, huu⟩ : ∃ u, u = (lh2 g (X i) (Y i) lo hi' t).2 := ⟨_, rfl⟩
    by_cases hk : g.first (X i t) ≤ Y i t ∨ Y i t ≤ (lh2 g (X i) (Y i) lo hi' t).1 (X i t)
    · have e : lh2 g (X i) (Y i) lo hi' (t + 1) = lh2 g (X i) (Y i) lo hi' t := by rw [lh2, if_pos hk]
      rw [e]
      refine ⟨i1, i2, fun k hk2 hk3 => ?_⟩
      by_cases e2 : k = t
      · subst e2
        rcases hk with hk | hk
        · exact absurd hk hk3
        · exact i1.cov (X i k) hx.1 (Y i k) hx.2.1 hk
      · exact i3 k (by omega) hk3
    · have e : lh2 g (X i) (Y i) lo hi' (t + 1) = (upd l (X i t) (Y i t), upd (fun k => max (u k) (g.U (X i t) (g.first (X i t)) k)) (X i t) (max (u (X i t)) (Y i t))) := by rw [lh2, if_neg hk, ← hll, ← huu]
      rw [← hll] at i1 hk
      rw [← huu] at i1 i2 i3
      rw [e]
      have hc0 : g.cnt (X i t) ≠ 0 := by rw [hcnt]; omega
      have hf := cnt_kept ok (s := X i t) (by rw [hn]; exact hx.1) hc0
      rw [hcnt] at hf
      have hf1 := ok.f1 (X i t) (by rw [hn]; exact hx.1)
      have ao := hV.at_law (Nat.le_of_lt hi) (s := X i t) (q := g.first (X i t)) hf1 hf
      have hup := hl.up _ ao.1 (by rw [ao.2.1, ao.2.2]; exact Nat.le_refl _)
      have hli := hl.lim _ ao.1 (by rw [ao.2.1, ao.2.2]; exact Nat.le_refl _)
      rw [ao.2.1, ao.2.2] at hup hli
      have hmono : ∀ k, u k ≤ upd (fun k => max (u k) (g.U (X i t) (g.first (X i t)) k)) (X i t) (max (u (X i t)) (Y i t)) k := fun k => by
        by_cases e2 : k = X i t
        · rw [e2, upd_same]; exact Nat.le_max_left _ _
        · rw [upd_ne e2]; exact Nat.le_max_left _ _
      have hre : Reach (EdgeP L J S m X Y) (At J L (X i t) (g.first (X i t))) (At J L (X i t) (Y i t)) :=
        hV.chain' hx.2.1 (by omega) (Nat.le_trans hf (cntTo_mono J _ i L (by omega)))
      have hcov : Cov (EdgeP L J S m X Y) J S (At J L (X i t) (Y i t)) (upd (fun k => max (u k) (g.U (X i t) (g.first (X i t)) k)) (X i t) (max (u (X i t)) (Y i t))) := fun r hr => by
        by_cases e2 : J r = X i t
        · rw [e2, upd_same]
          have h1 := hV.reach_le (by omega) hr
          have := hV.mono (p := At J L (X i t) (Y i t)) (by omega) h1 (by rw [e2, a.2.1])
          rw [a.2.2] at this
          exact Nat.le_trans this (Nat.le_max_right _ _)
        · rw [upd_ne e2]
          exact Nat.le_trans (hup r (hre.trans hr)) (Nat.le_max_right _ _)
      have hei : Reach (EdgeP L J S m X Y) i (At J L (X i t) (Y i t)) := (Reach.refl i).step (.inr ⟨t, by omega, rfl⟩)
      refine ⟨{ low := fun k hk2 q h1 h2 => ?_, cov := fun k hk2 q h1 h2 => ?_, lim := fun k hk2 => ?_ }, fun k => Nat.le_trans (i2 k) (hmono k), fun k hk2 hk3 => ?_⟩
      · by_cases e2 : k = X i t
        · subst e2
          have h2' : q ≤ upd l (X i t) (Y i t) (X i t) := h2
          rw [upd_same] at h2'
          exact ⟨by omega, hei.trans (hV.chain' h1 h2' (Nat.le_trans hx.2.2 (cntTo_mono J _ i L (by omega))))⟩
        · have h2' : q ≤ upd l (X i t) (Y i t) k := h2
          rw [upd_ne e2] at h2'
          exact i1.low k hk2 q h1 h2'
      · by_cases e2 : k = X i t
        · subst e2
          have h2' : q ≤ upd l (X i t) (Y i t) (X i t) := h2
          rw [upd_same] at h2'
          exact hcov.of_reach (hV.chain' h1 h2' (Nat.le_trans hx.2.2 (cntTo_mono J _ i L (by omega))))
        · have h2' : q ≤ upd l (X i t) (Y i t) k := h2
          rw [upd_ne e2] at h2'
          exact (i1.cov k hk2 q h1 h2').mono hmono
      · show upd (fun k => max (u k) (g.U (X i t) (g.first (X i t)) k)) (X i t) (max (u (X i t)) (Y i t)) k ≤ cntTo J i k
        by_cases e2 : k = X i t
        · rw [e2, upd_same]
          exact Nat.max_le.2 ⟨i1.lim _ hx.1, hx.2.2⟩
        · rw [upd_ne e2]
          exact Nat.max_le.2 ⟨i1.lim k hk2, Nat.le_trans (hli k hk2) (cntTo_mono J k _ i ao.1)⟩
      · by_cases e2 : k = t
        · rw [e2]; exact hcov
        · exact (i3 k (by omega) hk3).mono hmono

end
end Go.Proofs.Qxb6605249a

/-
  THE SEARCH OF shortestCycle, PLAINLY.
-/
import Derived.Test.Qxb6600486aWalk
import Derived.Test.Qxb6600486aReach
set_option linter.unusedVariables false
set_option linter.unusedSimpArgs false
namespace Go.Proofs.Qxb6600486a

/-- A walk of k edges from s to v, all of whose nodes behind s are in P. -/
def WkP (A : Nat → Nat → Prop) (P : Nat → Prop) (s : Nat) : Nat → Nat → Prop
  | 0, v => v = s
  | k + 1, v => P v ∧ ∃ u, WkP A P s k u ∧ A u v

theorem wk_iff {A : Nat → Nat → Prop} {P : Nat → Prop} {ic : Nat → Bool} {n s : Nat} (hA : ∀ u x, u < n → A u x → x < n) (hs : s < n) (hP : ∀ v, v < n → (ic v = true ↔ P v)) (hPn : ∀ v, P v → v < n) : ∀ k v, Wk A ic s k v ↔ WkP A P s k v
  | 0, v => Iff.rfl
  | k + 1, v => by
    constructor
    · rintro ⟨h1, u, h2, h3⟩
      have hu := Wk.lt hA hs k u h2
      exact ⟨(hP v (hA u v hu h3)).1 h1, u, (wk_iff hA hs hP hPn k u).1 h2, h3⟩
    · rintro ⟨h1, u, h2, h3⟩
      exact ⟨(hP v (hPn v h1)).2 h1, u, (wk_iff hA hs hP hPn k u).2 h2, h3⟩

/-- The search: q 0, q 1, .. q (t - 1) are the nodes in the order in which they were reached, those below c are seen to; M: where each was reached from; D: how far it is. -/
structure BF (n : Nat) (A : Nat → Nat → Prop) (P : Nat → Prop) (s : Nat) (M : Nat → Option Nat) (sn : Nat → Bool) (q : Nat → Nat) (c t : Nat) (D : Nat → Nat) : Prop where
  q0 : q 0 = s
  t1 : 1 ≤ t
  ct : c ≤ t
  d0 : D s = 0
  qs : ∀ i, 1 ≤ i → i < t → ∃ j, j < i ∧ M (q i) = some (q j) ∧ A (q j) (q i) ∧ P (q i) ∧ D (q i) = D (q j) + 1
  ms : ∀ w v, M w = some v → ∃ i, 1 ≤ i ∧ i < t ∧ q i = w
  sm : ∀ w, sn w = true ↔ (w = s ∨ (M w).isSome)
  s0 : M s = none
  few : t + unseen sn n ≤ n
  qn : ∀ i, i < t → q i < n
  di : ∀ i j, i ≤ j → j < t → D (q i) ≤ D (q j)
  dt : c < t → D (q (t - 1)) ≤ D (q c) + 1
  pr : ∀ i, i < c → ∀ w, A (q i) w → P w → w ≠ s ∧ ∃ j, j < t ∧ q j = w ∧ D w ≤ D (q i) + 1

theorem BF.start {n : Nat} {A : Nat → Nat → Prop} {P : Nat → Prop} {s : Nat} (hs : s < n) : BF n A P s (fun _ => none) (mark (fun _ => false) s) (fun _ => s) 0 1 (fun _ => 0) :=
  { q0 := rfl, t1 := Nat.le_refl _, ct := by omega, d0 := rfl, qs := fun i h1 h2 => by omega, ms := fun w v h => by cases h
    sm := fun w => by
      unfold mark
      by_cases e : w = s
      · simp [e]
      · simp [e]
    s0 := rfl
    few := by
      have := unseen_mark (fun _ => false) s rfl n hs
      have := unseen_le (fun _ => false) n
      omega
    qn := fun i hi => hs, di := fun i j h1 h2 => Nat.le_refl _, dt := fun _ => by omega, pr := fun i hi => by omega }

/-- Node w is reached from q c. -/
theorem BF.push {n : Nat} {A : Nat → Nat → Prop} {P : Nat → Prop} {s : Nat} {M : Nat → Option Nat} {sn : Nat → Bool} {q : Nat → Nat} {c t : Nat} {D : Nat → Nat} (h : BF n A P s M sn q c t D) (hc : c < t) {w : Nat} (hw : w < n) (hws : w ≠ s) (hm : M w = none) (hA : A (q c) w) (hP : P w) :
    BF n A P s (upd M w (some (q c))) (mark sn w) (upd q t w) c (t + 1) (upd D w (D (q c) + 1)) := by
  have hnew : ∀ i, i < t → q i ≠ w := fun i hi e => by
    rcases Nat.eq_zero_or_pos i with h0 | h0
    · rw [h0, h.q0] at e; exact hws e.symm
    · obtain ⟨j, _, h2, _⟩ := h.qs i h0 hi
      rw [e, hm] at h2; cases h2
  have hsn : sn w = false := by
    cases e : sn w with
    | false => rfl
    | true =>
      rcases (h.sm w).1 e with h1 | h1
      · exact absurd h1 hws
      · rw [hm] at h1; cases h1
  have hD : ∀ i, i < t → upd D w (D (q c) + 1) (q i) = D (q i) := fun i hi => upd_ne (hnew i hi)
  have hq : ∀ i, i < t → upd q t w i = q i := fun i hi => upd_ne (by omega)
  have t1 := h.t1
  exact
    { q0 := by rw [hq 0 (by omega)]; exact h.q0
      t1 := by omega, ct := by omega
      d0 := by rw [upd_ne (Ne.symm hws)]; exact h.d0
      qs := fun i h1 h2 => by
        by_cases e : i = t
        · subst e
          refine ⟨c, hc, ?_⟩
          rw [upd_same, hq c hc, upd_same, upd_same, hD c hc]
          exact ⟨rfl, hA, hP, rfl⟩
        · obtain ⟨j, g1, g2, g3, g4, g5⟩ := h.qs i h1 (by omega)
          refine ⟨j, g1, ?_⟩
          rw [hq i (by omega), hq j (by omega), upd_ne (hnew i (by omega)), hD i (by omega), hD j (by omega)]
          exact ⟨g2, g3, g4, g5⟩
      ms := fun x v hx => by
        by_cases e : x = w
        · exact ⟨t, t1, by omega, by rw [upd_same, e]⟩
        · rw [upd_ne e] at hx
          obtain ⟨i, g1, g2, g3⟩ := h.ms x v hx
          exact ⟨i, g1, by omega, by rw [hq i g2]; exact g3⟩
      sm := fun x => by
        unfold mark
        by_cases e : x = w
        · subst e; simp [upd_same]
        · rw [if_neg e, upd_ne e]; exact h.sm x
      s0 := by rw [upd_ne (Ne.symm hws)]; exact h.s0
      few := by have := h.few; have := unseen_mark sn w hsn n hw; omega
      qn := fun i hi => by
        by_cases e : i = t
        · rw [e, upd_same]; exact hw
        · rw [hq i (by omega)]; exact h.qn i (by omega)
      di := fun i j h1 h2 => by
        by_cases e : j = t
        · subst e
          rw [upd_same, upd_same]
          by_cases e2 : i = j
          · rw [e2, upd_same, upd_same]; exact Nat.le_refl _
          · rw [hq i (by omega), hD i (by omega)]
            have g1 := h.di i (j - 1) (by omega) (by omega)
            have g2 := h.dt hc
            omega
        · rw [hq i (by omega), hq j (by omega), hD i (by omega), hD j (by omega)]
          exact h.di i j h1 (by omega)
      dt := fun _ => by
        rw [show t + 1 - 1 = t from by omega, upd_same, upd_same, hq c hc, hD c hc]; exact Nat.le_refl _
      pr := fun i hi x hx hPx => by
        rw [hq i (by omega)] at hx ⊢
        obtain ⟨g1, j, g2, g3, g4⟩ := h.pr i hi x hx hPx
        refine ⟨g1, j, by omega, by rw [hq j g2]; exact g3, ?_⟩
        rw [hD i (by omega), ← g3, hD j g2, g3]
        exact g4 }

/-- q c is seen to. -/
theorem BF.next {n : Nat} {A : Nat → Nat → Prop} {P : Nat → Prop} {s : Nat} {M : Nat → Option Nat} {sn : Nat → Bool} {q : Nat → Nat} {c t : Nat} {D : Nat → Nat} (h : BF n A P s M sn q c t D) (hc : c < t)
    (hp : ∀ w, A (q c) w → P w → w ≠ s ∧ ∃ j, j < t ∧ q j = w ∧ D w ≤ D (q c) + 1) : BF n A P s M sn q (c + 1) t D :=
  { q0 := h.q0, t1 := h.t1, ct := by omega, d0 := h.d0, qs := h.qs, ms := h.ms, sm := h.sm, s0 := h.s0, few := h.few, qn := h.qn, di := h.di
    dt := fun h1 => by
      have g1 := h.dt hc
      have g2 := h.di c (c + 1) (by omega) h1
      omega
    pr := fun i hi w hw hP => by
      by_cases e : i = c
      · rw [e] at hw ⊢; exact hp w hw hP
      · exact h.pr i (by omega) w hw hP }

/-- A node that is in M is as near as q c's edge makes it. -/
theorem BF.near {n : Nat} {A : Nat → Nat → Prop} {P : Nat → Prop} {s : Nat} {M : Nat → Option Nat} {sn : Nat → Bool} {q : Nat → Nat} {c t : Nat} {D : Nat → Nat} (h : BF n A P s M sn q c t D) (hc : c < t) {w v : Nat} (hm : M w = some v) : ∃ j, j < t ∧ q j = w ∧ D w ≤ D (q c) + 1 := by
  obtain ⟨i, h1, h2, h3⟩ := h.ms w v hm
  refine ⟨i, h2, h3, ?_⟩
  have g1 := h.dt hc
  have g2 := h.di i (t - 1) (by omega) (by omega)
  rw [h3] at g2
  omega

/-- Where all is seen to, no walk leads back to s. -/
theorem BF.stuck {n : Nat} {A : Nat → Nat → Prop} {P : Nat → Prop} {s : Nat} {M : Nat → Option Nat} {sn : Nat → Bool} {q : Nat → Nat} {t : Nat} {D : Nat → Nat} (h : BF n A P s M sn q t t D) : ∀ k v, WkP A P s k v → (∃ j, j < t ∧ q j = v) ∧ (1 ≤ k → v ≠ s)
  | 0, v, hv => by
    have hv' : v = s := hv
    exact ⟨⟨0, h.t1, by rw [h.q0, hv']⟩, fun h => by omega⟩
  | k + 1, v, hv => by
    obtain ⟨h1, u, h2, h3⟩ := hv
    obtain ⟨⟨j, g1, g2⟩, _⟩ := BF.stuck h k u h2
    rw [← g2] at h3
    obtain ⟨e1, j', e2, e3, _⟩ := h.pr j g1 v h3 h1
    exact ⟨⟨j', e2, e3⟩, fun _ => e1⟩

/-- No closed walk is shorter than D (q c) + 1. -/
theorem BF.least {n : Nat} {A : Nat → Nat → Prop} {P : Nat → Prop} {s : Nat} {M : Nat → Option Nat} {sn : Nat → Bool} {q : Nat → Nat} {c t : Nat} {D : Nat → Nat} (h : BF n A P s M sn q c t D) (hc : c < t) {k : Nat} (hk : 1 ≤ k) (hw : WkP A P s k s) : D (q c) + 1 ≤ k := by
  by_cases hle : k ≤ D (q c)
  · exfalso
    have key : ∀ j v, j ≤ k → WkP A P s j v → (∃ i, i < t ∧ q i = v) ∧ D v ≤ j ∧ (1 ≤ j → v ≠ s) := fun j => by
      induction j with
      | zero =>
        intro v _ hv
        have hv' : v = s := hv
        exact ⟨⟨0, h.t1, by rw [h.q0, hv']⟩, by rw [hv', h.d0]; exact Nat.le_refl _, fun h => by omega⟩
      | succ j ih =>
        intro v hj hv
        obtain ⟨h1, u, h2, h3⟩ := hv
        obtain ⟨⟨i, g1, g2⟩, g3, _⟩ := ih u (by omega) h2
        have hic : i < c := by
          rcases Nat.lt_or_ge i c with h4 | h4
          · exact h4
          · have := h.di c i h4 g1
            rw [g2] at this
            omega
        rw [← g2] at h3
        obtain ⟨e1, j', e2, e3, e4⟩ := h.pr i hic v h3 h1
        rw [g2] at e4
        exact ⟨⟨j', e2, e3⟩, by omega, fun _ => e1⟩
    exact (key k s (Nat.le_refl _) hw).2.2 hk rfl
  · omega

/-- The way back. -/
def back (M : Nat → Option Nat) (v : Nat) : Nat → Nat
  | 0 => v
  | k + 1 => (M (back M v k)).getD 0

theorem BF.back {n : Nat} {A : Nat → Nat → Prop} {P : Nat → Prop} {s : Nat} {M : Nat → Option Nat} {sn : Nat → Bool} {q : Nat → Nat} {c t : Nat} {D : Nat → Nat} (h : BF n A P s M sn q c t D) {v i0 : Nat} (hi0 : i0 < t) (hv : q i0 = v) :
    ∀ k, k ≤ D v → (∃ i, i < t ∧ q i = back M v k) ∧ D (back M v k) + k = D v ∧ (k < D v → M (back M v k) = some (back M v (k + 1)) ∧ A (back M v (k + 1)) (back M v k) ∧ P (back M v k) ∧ back M v k ≠ s)
  | 0, _ => by
    have stp : ∀ u, (∃ i, i < t ∧ q i = u) → 0 < D u → ∃ x, M u = some x ∧ A x u ∧ P u ∧ u ≠ s := fun u ⟨i, g1, g2⟩ hd => by
      rcases Nat.eq_zero_or_pos i with h0 | h0
      · rw [h0, h.q0] at g2; rw [← g2, h.d0] at hd; omega
      · obtain ⟨j, _, e2, e3, e4, e5⟩ := h.qs i h0 g1
        rw [g2] at e2 e3 e4
        refine ⟨_, e2, e3, e4, fun e => ?_⟩
        rw [e, h.s0] at e2; cases e2
    refine ⟨⟨i0, hi0, hv⟩, rfl, fun hk => ?_⟩
    obtain ⟨x, e1, e2, e3, e4⟩ := stp v ⟨i0, hi0, hv⟩ hk
    have : Go.Proofs.Qxb6600486a.back M v 1 = x := by show (M v).getD 0 = x; rw [e1]; rfl
    rw [this]
    exact ⟨e1, e2, e3, e4⟩
  | k + 1, hk => by
    obtain ⟨⟨i, g1, g2⟩, g3, g4⟩ := BF.back h hi0 hv k (by omega)
    obtain ⟨m1, m2, m3, m4⟩ := g4 (by omega)
    have hi : 1 ≤ i := by
      rcases Nat.eq_zero_or_pos i with h0 | h0
      · rw [h0, h.q0] at g2; exact absurd g2.symm m4
      · exact h0
    obtain ⟨j, e1, e2, e3, e4, e5⟩ := h.qs i hi g1
    rw [g2, m1] at e2
    have e2' : Go.Proofs.Qxb6600486a.back M v (k + 1) = q j := Option.some.inj e2
    rw [g2] at e5
    rw [← e2'] at e5
    have hin : ∃ i, i < t ∧ q i = Go.Proofs.Qxb6600486a.back M v (k + 1) := ⟨j, by omega, e2'.symm⟩
    refine ⟨hin, by omega, fun hk2 => ?_⟩
    obtain ⟨i', f1, f2⟩ := hin
    have hi' : 1 ≤ i' := by
      rcases Nat.eq_zero_or_pos i' with h0 | h0
      · rw [h0, h.q0] at f2
        rw [← f2, h.d0] at e5
        have : D (Go.Proofs.Qxb6600486a.back M v k) + k = D v := g3
        omega
      · exact h0
    obtain ⟨j', x1, x2, x3, x4, x5⟩ := h.qs i' hi' f1
    rw [f2] at x2 x3 x4
    have : Go.Proofs.Qxb6600486a.back M v (k + 1 + 1) = q j' := by show (M (Go.Proofs.Qxb6600486a.back M v (k + 1))).getD 0 = q j'; rw [x2]; rfl
    rw [this]
    refine ⟨x2, x3, x4, fun e => ?_⟩
    rw [e, h.s0] at x2; cases x2

theorem BF.back_end {n : Nat} {A : Nat → Nat → Prop} {P : Nat → Prop} {s : Nat} {M : Nat → Option Nat} {sn : Nat → Bool} {q : Nat → Nat} {c t : Nat} {D : Nat → Nat} (h : BF n A P s M sn q c t D) {v i0 : Nat} (hi0 : i0 < t) (hv : q i0 = v) : Go.Proofs.Qxb6600486a.back M v (D v) = s := by
  obtain ⟨⟨i, g1, g2⟩, g3, _⟩ := h.back hi0 hv (D v) (Nat.le_refl _)
  rcases Nat.eq_zero_or_pos i with h0 | h0
  · rw [h0, h.q0] at g2; exact g2.symm
  · obtain ⟨j, _, _, _, _, e5⟩ := h.qs i h0 g1
    rw [g2] at e5
    omega

/-- A shortest cycle through s inside P. -/
structure Cyc (A : Nat → Nat → Prop) (P : Nat → Prop) (s l : Nat) (y : Nat → Nat) : Prop where
  l1 : 1 ≤ l
  y0 : y 0 = s
  inP : ∀ i, 1 ≤ i → i < l → P (y i)
  ed : ∀ i, i + 1 < l → A (y i) (y (i + 1))
  cl : A (y (l - 1)) s
  inj : ∀ i j, i < j → j < l → y i ≠ y j
  least : ∀ k, 1 ≤ k → WkP A P s k s → l ≤ k

theorem BF.cyc {n : Nat} {A : Nat → Nat → Prop} {P : Nat → Prop} {s : Nat} {M : Nat → Option Nat} {sn : Nat → Bool} {q : Nat → Nat} {c t : Nat} {D : Nat → Nat} (h : BF n A P s M sn q c t D) (hc : c < t) (hA : A (q c) s) :
    Cyc A P s (D (q c) + 1) (fun i => Go.Proofs.Qxb6600486a.back M (q c) (D (q c) - i)) := by
  obtain ⟨v, hv⟩ : ∃ v, v = q c := ⟨_, rfl⟩
  rw [← hv] at hA ⊢
  have B := h.back hc hv.symm
  have hend := h.back_end hc hv.symm
  exact
    { l1 := by omega
      y0 := by show Go.Proofs.Qxb6600486a.back M v (D v - 0) = s; rw [Nat.sub_zero]; exact hend
      inP := fun i h1 h2 => ((B (D v - i) (by omega)).2.2 (by omega)).2.2.1
      ed := fun i hi => by
        have := ((B (D v - (i + 1)) (by omega)).2.2 (by omega)).2.1
        rw [show D v - (i + 1) + 1 = D v - i from by omega] at this
        exact this
      cl := by
        show A (Go.Proofs.Qxb6600486a.back M v (D v - (D v + 1 - 1))) s
        rw [show D v - (D v + 1 - 1) = 0 from by omega]
        exact hA
      inj := fun i j h1 h2 e => by
        have a := (B (D v - i) (by omega)).2.1
        have b := (B (D v - j) (by omega)).2.1
        have e' : Go.Proofs.Qxb6600486a.back M v (D v - i) = Go.Proofs.Qxb6600486a.back M v (D v - j) := e
        rw [e'] at a
        omega
      least := fun k hk hw => by have := h.least hc hk hw; rw [← hv] at this; exact this }

end Go.Proofs.Qxb6600486a

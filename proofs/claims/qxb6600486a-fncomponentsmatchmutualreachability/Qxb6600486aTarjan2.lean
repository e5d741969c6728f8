/-
  TARJAN's SEARCH, PLAIN, on: a node is left; a class is listed; the count; the list of classes is one of its kind.
-/
import Derived.Test.Qxb6600486aTarjan
set_option linter.unusedVariables false
set_option linter.unusedSimpArgs false
namespace Go.Proofs.Qxb6600486a

variable {A : Nat → Nat → Prop} {n : Nat} {F G : Nat → Nat} {s : TS} {ex : Nat → Prop}

/-- The top has no edge left: each edge of each node from it up has been looked at. -/
theorem TInv.fin (h : TInv A n F G s ex) (hD : 0 < s.D) (hC : ∀ y, A (s.cn (s.D - 1)) y → ∃ e, F (s.cn (s.D - 1)) ≤ e ∧ e < F (s.cn (s.D - 1) + 1) ∧ G e = y) (hc : ¬ s.cx (s.D - 1) < F (s.cn (s.D - 1) + 1))
    {x y : Nat} (hx : s.on x = true) (hle : s.idx (s.cn (s.D - 1)) ≤ s.idx x) (ha : A x y) : Proc A F G s x y := by
  by_cases hg : ∃ d, d < s.D ∧ s.cn d = x
  · obtain ⟨d, hd, e⟩ := hg
    have hd' : d = s.D - 1 := by
      rcases Nat.lt_or_ge d (s.D - 1) with h1 | h1
      · have := h.cinc d (s.D - 1) h1 (by omega); rw [e] at this; omega
      · omega
    rw [hd'] at e
    rw [← e] at ha ⊢
    obtain ⟨e', h1, h2, h3⟩ := hC y ha
    exact .inl ⟨s.D - 1, by omega, rfl, e', h1, by omega, h3⟩
  · exact .inr ⟨fun d hd e => hg ⟨d, hd, e⟩, ha⟩

theorem TInv.closed (h : TInv A n F G s NoEx) (hD : 0 < s.D) (hC : ∀ y, A (s.cn (s.D - 1)) y → ∃ e, F (s.cn (s.D - 1)) ≤ e ∧ e < F (s.cn (s.D - 1) + 1) ∧ G e = y) (hc : ¬ s.cx (s.D - 1) < F (s.cn (s.D - 1) + 1))
    (hl : s.low (s.cn (s.D - 1)) = s.idx (s.cn (s.D - 1))) {x y : Nat} (hx : s.on x = true) (hle : s.idx (s.cn (s.D - 1)) ≤ s.idx x) (ha : A x y) :
    (s.on y = true ∧ s.idx (s.cn (s.D - 1)) ≤ s.idx y) ∨ (s.idx y ≠ 0 ∧ s.on y = false) := by
  have hp := h.fin hD hC hc hx hle ha
  cases e : s.on y with
  | true =>
    left
    refine ⟨rfl, ?_⟩
    rw [← hl]
    exact h.lw (s.D - 1) (by omega) x hx hle (fun h2 => by omega) y hp e
  | false =>
    right
    rcases h.seen x y hx hp with h1 | h1
    · exact ⟨h1, rfl⟩
    · exact h1.elim

theorem TInv.done_reach (h : TInv A n F G s ex) {x y : Nat} (h1 : s.idx x ≠ 0) (h2 : s.on x = false) (hr : Reach A x y) : s.idx y ≠ 0 ∧ s.on y = false :=
  hr (fun z => s.idx z ≠ 0 ∧ s.on z = false) ⟨h1, h2⟩ (fun a b ⟨h3, h4⟩ e => h.done a b h3 h4 e)

/-- The top's class: just what lies on the stack from it up. -/
theorem TInv.cls (h : TInv A n F G s NoEx) (hD : 0 < s.D) (hC : ∀ y, A (s.cn (s.D - 1)) y → ∃ e, F (s.cn (s.D - 1)) ≤ e ∧ e < F (s.cn (s.D - 1) + 1) ∧ G e = y) (hc : ¬ s.cx (s.D - 1) < F (s.cn (s.D - 1) + 1))
    (hl : s.low (s.cn (s.D - 1)) = s.idx (s.cn (s.D - 1))) (x : Nat) : Mut A (s.cn (s.D - 1)) x ↔ s.on x = true ∧ s.idx (s.cn (s.D - 1)) ≤ s.idx x := by
  have hv := h.cnS (s.D - 1) (by omega)
  constructor
  · rintro ⟨h1, h2⟩
    have hk := h1 (fun z => (s.on z = true ∧ s.idx (s.cn (s.D - 1)) ≤ s.idx z) ∨ (s.idx z ≠ 0 ∧ s.on z = false)) (.inl ⟨hv, Nat.le_refl _⟩) (fun a b ha e => by
      rcases ha with ⟨h3, h4⟩ | ⟨h3, h4⟩
      · exact h.closed hD hC hc hl h3 h4 e
      · exact .inr (h.done a b h3 h4 e))
    rcases hk with hk | hk
    · exact hk
    · have := (h.done_reach hk.1 hk.2 h2).2
      rw [hv] at this
      cases this
  · rintro ⟨h1, h2⟩
    refine ⟨h.dn (s.D - 1) (by omega) x h1 h2, ?_⟩
    obtain ⟨d, hd, h3, h4⟩ := h.up x h1
    refine h4.trans (h.dn d hd _ hv ?_)
    rcases Nat.lt_or_ge d (s.D - 1) with h5 | h5
    · exact Nat.le_of_lt (h.cinc d (s.D - 1) h5 (by omega))
    · rw [show d = s.D - 1 from by omega]; exact Nat.le_refl _

/-- The top is left; nothing is listed. -/
def TS.popA (s : TS) (low' : Nat → Nat) : TS := { s with D := s.D - 1, low := low', r := upd s.r (s.cn (s.D - 1)) 0 }

/-- The top is left; the stack is cut to k. -/
def TS.popB (s : TS) (low' : Nat → Nat) (k : Nat) (on' : Nat → Bool) : TS := { s with D := s.D - 1, low := low', S := k, on := on', r := upd s.r (s.cn (s.D - 1)) 0 }

theorem TInv.popA (h : TInv A n F G s NoEx) (hD : 0 < s.D) (hC : ∀ y, A (s.cn (s.D - 1)) y → ∃ e, F (s.cn (s.D - 1)) ≤ e ∧ e < F (s.cn (s.D - 1) + 1) ∧ G e = y) (hc : ¬ s.cx (s.D - 1) < F (s.cn (s.D - 1) + 1))
    (hl : s.low (s.cn (s.D - 1)) ≠ s.idx (s.cn (s.D - 1))) (low' : Nat → Nat) (hl1 : ∀ d, d + 2 < s.D → low' (s.cn d) = s.low (s.cn d)) (hl2 : 2 ≤ s.D → low' (s.cn (s.D - 2)) = min (s.low (s.cn (s.D - 2))) (s.low (s.cn (s.D - 1)))) :
    TInv A n F G (s.popA low') NoEx := by
  have hv := h.cnS (s.D - 1) (by omega)
  have hpr : ∀ x y, s.on x = true → Proc A F G (s.popA low') x y → Proc A F G s x y := by
    rintro x y hx (⟨d, hd, e1, e, e2, e3, e4⟩ | ⟨h1, h2⟩)
    · have hd' : d < s.D - 1 := hd
      exact .inl ⟨d, by omega, e1, e, e2, e3, e4⟩
    · by_cases e : x = s.cn (s.D - 1)
      · refine h.fin hD hC hc hx ?_ h2
        rw [e]; exact Nat.le_refl _
      · refine .inr ⟨fun d hd ed => ?_, h2⟩
        by_cases e' : d = s.D - 1
        · rw [e'] at ed; exact e ed.symm
        · exact h1 d (by show d < s.D - 1; omega) ed
  obtain ⟨hvl, yv, hy1, hy2, hy3⟩ := h.ls (s.D - 1) (by omega)
  refine { onS := h.onS, stn := h.stn, inc := h.inc, cnS := ?_, cinc := ?_, cxr := ?_, idn := h.idn, idr := h.idr, done := h.done, up := ?_, dn := ?_, seen := ?_, lw := ?_, ls := ?_ }
  · intro d hd
    have hd' : d < s.D - 1 := hd
    exact h.cnS d (by omega)
  · intro d d' h1 h2
    have hd' : d' < s.D - 1 := h2
    exact h.cinc d d' h1 (by omega)
  · intro d hd
    have hd' : d < s.D - 1 := hd
    exact h.cxr d (by omega)
  · intro x hx
    obtain ⟨d, hd, h1, h2⟩ := h.up x hx
    by_cases e : d = s.D - 1
    · obtain ⟨z, hz, h3, h4⟩ := h.up yv hy1
      rw [e] at h1 h2
      have hz' : z ≠ s.D - 1 := fun ez => by rw [ez] at h3; omega
      exact ⟨z, by show z < s.D - 1; omega, by show s.idx (s.cn z) ≤ s.idx x; omega, (h2.trans hy3).trans h4⟩
    · exact ⟨d, by show d < s.D - 1; omega, h1, h2⟩
  · intro d hd
    have hd' : d < s.D - 1 := hd
    exact h.dn d (by omega)
  · intro x y hx hp
    exact h.seen x y hx (hpr x y hx hp)
  · intro d hd x hx hle hlt y hp hy
    have hd' : d < s.D - 1 := hd
    have hp' := hpr x y hx hp
    show low' (s.cn d) ≤ s.idx y
    by_cases e : d + 1 < s.D - 1
    · rw [hl1 d (by omega)]
      exact h.lw d (by omega) x hx hle (fun _ => hlt e) y hp' hy
    · have ed : d = s.D - 2 := by omega
      rw [ed, hl2 (by omega)]
      rcases Nat.lt_or_ge (s.idx x) (s.idx (s.cn (s.D - 1))) with h1 | h1
      · have := h.lw d (by omega) x hx hle (fun _ => by rw [show d + 1 = s.D - 1 from by omega]; exact h1) y hp' hy
        rw [ed] at this
        omega
      · have := h.lw (s.D - 1) (by omega) x hx h1 (fun h2 => by omega) y hp' hy
        omega
  · intro d hd
    have hd' : d < s.D - 1 := hd
    show low' (s.cn d) ≤ s.idx (s.cn d) ∧ ∃ y, s.on y = true ∧ s.idx y = low' (s.cn d) ∧ Reach A (s.cn d) y
    by_cases e : d + 1 < s.D - 1
    · rw [hl1 d (by omega)]
      exact h.ls d (by omega)
    · have ed : d = s.D - 2 := by omega
      obtain ⟨h1, y, h2, h3, h4⟩ := h.ls d (by omega)
      rw [ed] at h1 h3 h4 ⊢
      rw [hl2 (by omega)]
      refine ⟨by omega, ?_⟩
      rcases Nat.le_total (s.low (s.cn (s.D - 2))) (s.low (s.cn (s.D - 1))) with h5 | h5
      · exact ⟨y, h2, by rw [h3]; omega, h4⟩
      · refine ⟨yv, hy1, by rw [hy2]; omega, Reach.trans ?_ hy3⟩
        exact h.dn (s.D - 2) (by omega) _ hv (Nat.le_of_lt (h.cinc _ _ (by omega) (by omega)))

theorem TInv.popB (h : TInv A n F G s NoEx) (hD : 0 < s.D) (hC : ∀ y, A (s.cn (s.D - 1)) y → ∃ e, F (s.cn (s.D - 1)) ≤ e ∧ e < F (s.cn (s.D - 1) + 1) ∧ G e = y) (hc : ¬ s.cx (s.D - 1) < F (s.cn (s.D - 1) + 1))
    (hl : s.low (s.cn (s.D - 1)) = s.idx (s.cn (s.D - 1))) (low' : Nat → Nat) (hl1 : ∀ d, d + 2 < s.D → low' (s.cn d) = s.low (s.cn d)) (hl2 : 2 ≤ s.D → low' (s.cn (s.D - 2)) = min (s.low (s.cn (s.D - 2))) (s.low (s.cn (s.D - 1))))
    (k : Nat) (hk : k < s.S) (hkv : s.st k = s.cn (s.D - 1)) (on' : Nat → Bool) (hon : ∀ x, on' x = true ↔ s.on x = true ∧ s.idx x < s.idx (s.cn (s.D - 1))) :
    TInv A n F G (s.popB low' k on') NoEx := by
  have hv := h.cnS (s.D - 1) (by omega)
  have hpr : ∀ x y, s.idx x < s.idx (s.cn (s.D - 1)) → Proc A F G (s.popB low' k on') x y → Proc A F G s x y := by
    rintro x y hx (⟨d, hd, e1, e, e2, e3, e4⟩ | ⟨h1, h2⟩)
    · have hd' : d < s.D - 1 := hd
      exact .inl ⟨d, by omega, e1, e, e2, e3, e4⟩
    · refine .inr ⟨fun d hd ed => ?_, h2⟩
      by_cases e' : d = s.D - 1
      · rw [e'] at ed; rw [ed] at hx; omega
      · exact h1 d (by show d < s.D - 1; omega) ed
  have hcl : ∀ d, d < s.D - 1 → s.idx (s.cn d) < s.idx (s.cn (s.D - 1)) := fun d hd => h.cinc d _ hd (by omega)
  have hlow : ∀ d, d < s.D - 1 → low' (s.cn d) = s.low (s.cn d) := fun d hd => by
    by_cases e : d + 1 < s.D - 1
    · exact hl1 d (by omega)
    · have ed : d = s.D - 2 := by omega
      have h1 := (h.ls d (by omega)).1
      have h2 := hcl d hd
      rw [ed] at h1 h2 ⊢
      rw [hl2 (by omega)]
      omega
  refine { onS := ?_, stn := ?_, inc := ?_, cnS := ?_, cinc := ?_, cxr := ?_, idn := h.idn, idr := h.idr, done := ?_, up := ?_, dn := ?_, seen := ?_, lw := ?_, ls := ?_ }
  · intro x
    show on' x = true ↔ ∃ i, i < k ∧ s.st i = x
    rw [hon]
    constructor
    · rintro ⟨h1, h2⟩
      obtain ⟨i, hi, rfl⟩ := (h.onS x).1 h1
      refine ⟨i, ?_, rfl⟩
      rw [← hkv] at h2
      rcases Nat.lt_trichotomy i k with h3 | h3 | h3
      · exact h3
      · rw [h3] at h2; omega
      · have := h.inc k i h3 hi; omega
    · rintro ⟨i, hi, rfl⟩
      exact ⟨(h.onS _).2 ⟨i, by omega, rfl⟩, by rw [← hkv]; exact h.inc i k hi hk⟩
  · intro i hi
    have hi' : i < k := hi
    exact h.stn i (by omega)
  · intro i j h1 h2
    have hj' : j < k := h2
    exact h.inc i j h1 (by omega)
  · intro d hd
    have hd' : d < s.D - 1 := hd
    exact (hon _).2 ⟨h.cnS d (by omega), hcl d hd'⟩
  · intro d d' h1 h2
    have hd' : d' < s.D - 1 := h2
    exact h.cinc d d' h1 (by omega)
  · intro d hd
    have hd' : d < s.D - 1 := hd
    exact h.cxr d (by omega)
  · intro x y hx hxo ha
    have hoff : ∀ z, (s.on z = true ∧ s.idx (s.cn (s.D - 1)) ≤ s.idx z) ∨ (s.idx z ≠ 0 ∧ s.on z = false) → s.idx z ≠ 0 ∧ on' z = false := fun z hz => by
      have e : on' z = false := by
        cases e : on' z with
        | false => rfl
        | true =>
          have := (hon z).1 e
          rcases hz with ⟨h1, h2⟩ | ⟨h1, h2⟩
          · omega
          · rw [h2] at this; cases this.1
      rcases hz with hz | hz
      · exact ⟨(h.on_idx hz.1).1, e⟩
      · exact ⟨hz.1, e⟩
    cases e : s.on x with
    | false => exact hoff y (.inr (h.done x y hx e ha))
    | true =>
      have hge : s.idx (s.cn (s.D - 1)) ≤ s.idx x := by
        rcases Nat.lt_or_ge (s.idx x) (s.idx (s.cn (s.D - 1))) with h1 | h1
        · have h2 := (hon x).2 ⟨e, h1⟩
          have h3 : on' x = false := hxo
          rw [h3] at h2; cases h2
        · exact h1
      exact hoff y (h.closed hD hC hc hl e hge ha)
  · intro x hx
    obtain ⟨h1, h2⟩ := (hon x).1 hx
    obtain ⟨d, hd, h3, h4⟩ := h.up x h1
    refine ⟨d, ?_, h3, h4⟩
    show d < s.D - 1
    by_cases e : d = s.D - 1
    · rw [e] at h3; omega
    · omega
  · intro d hd x hx hle
    have hd' : d < s.D - 1 := hd
    exact h.dn d (by omega) x ((hon x).1 hx).1 hle
  · intro x y hx hp
    obtain ⟨h1, h2⟩ := (hon x).1 hx
    exact h.seen x y h1 (hpr x y h2 hp)
  · intro d hd x hx hle hlt y hp hy
    have hd' : d < s.D - 1 := hd
    obtain ⟨h1, h2⟩ := (hon x).1 hx
    show low' (s.cn d) ≤ s.idx y
    rw [hlow d hd']
    refine h.lw d (by omega) x h1 hle (fun _ => ?_) y (hpr x y h2 hp) ((hon y).1 hy).1
    by_cases e : d + 1 < s.D - 1
    · exact hlt e
    · rw [show d + 1 = s.D - 1 from by omega]; exact h2
  · intro d hd
    have hd' : d < s.D - 1 := hd
    show low' (s.cn d) ≤ s.idx (s.cn d) ∧ ∃ y, on' y = true ∧ s.idx y = low' (s.cn d) ∧ Reach A (s.cn d) y
    rw [hlow d hd']
    obtain ⟨h1, y, h2, h3, h4⟩ := h.ls d (by omega)
    exact ⟨h1, y, (hon y).2 ⟨h2, by have := hcl d hd'; omega⟩, h3, h4⟩

/-! ### The count -/

def sumTo (r : Nat → Nat) : Nat → Nat
  | 0 => 0
  | k + 1 => sumTo r k + r k

theorem sumTo_out (r : Nat → Nat) (v x : Nat) : ∀ k, k ≤ v → sumTo (upd r v x) k = sumTo r k
  | 0, _ => rfl
  | k + 1, h => by rw [sumTo, sumTo, sumTo_out r v x k (by omega), upd_ne (by omega)]

theorem sumTo_upd (r : Nat → Nat) (v x : Nat) : ∀ k, v < k → sumTo (upd r v x) k + r v = sumTo r k + x
  | 0, h => by omega
  | k + 1, h => by
    rw [sumTo, sumTo]
    by_cases e : v = k
    · subst e; rw [sumTo_out r v x v (Nat.le_refl _), upd_same]; omega
    · have := sumTo_upd r v x k (by omega)
      rw [upd_ne (fun e' => e e'.symm)]; omega

theorem sumTo_start (F : Nat → Nat) (n : Nat) (h0 : F 0 = 0) (hm : ∀ v, v < n → F v ≤ F (v + 1)) : ∀ k, k ≤ n → sumTo (fun v => F (v + 1) - F v + 2) k = F k + 2 * k
  | 0, _ => by rw [sumTo, h0]
  | k + 1, h => by
    rw [sumTo, sumTo_start F n h0 hm k (by omega)]
    have := hm k (by omega)
    omega

structure TF (n : Nat) (F : Nat → Nat) (T K : Nat) (s : TS) : Prop where
  un : ∀ v, v < n → s.idx v = 0 → s.r v = F (v + 1) - F v + 2
  gr : ∀ d, d < s.D → s.r (s.cn d) = F (s.cn d + 1) - s.cx d + 1
  tot : K + s.rch + sumTo s.r n ≤ T

theorem tf_start (n m : Nat) (F : Nat → Nat) (h0 : F 0 = 0) (hm : ∀ v, v < n → F v ≤ F (v + 1)) (ht : F n ≤ m) : TF n F (m + 2 * n) 0 (TS.start fun v => F (v + 1) - F v + 2) :=
  { un := fun v _ _ => rfl
    gr := fun d hd => absurd hd (Nat.not_lt_zero _)
    tot := by
      show 0 + 0 + sumTo (fun v => F (v + 1) - F v + 2) n ≤ m + 2 * n
      rw [sumTo_start F n h0 hm n (Nat.le_refl _)]; omega }

theorem TF.visit {T K : Nat} (f : TF n F T K s) (h : TInv A n F G s ex) {v : Nat} (hv : v < n) (h0 : s.idx v = 0) : TF n F T K (s.visit F v) ∧ sumTo (s.visit F v).r n + 1 = sumTo s.r n := by
  have hne : ∀ d, d < s.D → s.cn d ≠ v := fun d hd e => (h.on_idx (h.cnS d hd)).1 (by rw [e]; exact h0)
  have hs := sumTo_upd s.r v (F (v + 1) - F v + 1) n hv
  rw [f.un v hv h0] at hs
  have hsum : sumTo (s.visit F v).r n + 1 = sumTo s.r n := by
    show sumTo (upd s.r v (F (v + 1) - F v + 1)) n + 1 = _
    omega
  refine ⟨{ un := ?_, gr := ?_, tot := ?_ }, hsum⟩
  · intro x hx hx0
    have hx0' : upd s.idx v (s.rch + 1) x = 0 := hx0
    by_cases e : x = v
    · rw [e, upd_same] at hx0'; omega
    · rw [upd_ne e] at hx0'
      show upd s.r v _ x = _
      rw [upd_ne e]; exact f.un x hx hx0'
  · intro d hd
    have hd' : d < s.D + 1 := hd
    show upd s.r v (F (v + 1) - F v + 1) (upd s.cn s.D v d) = F (upd s.cn s.D v d + 1) - upd s.cx s.D (F v) d + 1
    by_cases e : d = s.D
    · rw [e, upd_same, upd_same, upd_same]
    · rw [upd_ne e, upd_ne e, upd_ne (hne d (by omega))]
      exact f.gr d (by omega)
  · show K + (s.rch + 1) + sumTo (s.visit F v).r n ≤ T
    have := f.tot
    omega

theorem TF.adv {T K : Nat} (f : TF n F T K s) (h : TInv A n F G s ex) (hD : 0 < s.D) (hc : s.cx (s.D - 1) < F (s.cn (s.D - 1) + 1)) (low' : Nat → Nat) :
    TF n F T K (s.adv low') ∧ sumTo (s.adv low').r n + 1 = sumTo s.r n := by
  have hv := (h.on_idx (h.cnS (s.D - 1) (by omega)))
  have hg := f.gr (s.D - 1) (by omega)
  have hs := sumTo_upd s.r (s.cn (s.D - 1)) (s.r (s.cn (s.D - 1)) - 1) n hv.2
  have hsum : sumTo (s.adv low').r n + 1 = sumTo s.r n := by
    show sumTo (upd s.r _ _) n + 1 = _
    omega
  refine ⟨{ un := ?_, gr := ?_, tot := ?_ }, hsum⟩
  · intro x hx hx0
    have e : x ≠ s.cn (s.D - 1) := fun e => hv.1 (by rw [← e]; exact hx0)
    show upd s.r _ _ x = _
    rw [upd_ne e]; exact f.un x hx hx0
  · intro d hd
    have hd' : d < s.D := hd
    show upd s.r (s.cn (s.D - 1)) (s.r (s.cn (s.D - 1)) - 1) (s.cn d) = F (s.cn d + 1) - upd s.cx (s.D - 1) (s.cx (s.D - 1) + 1) d + 1
    by_cases e : d = s.D - 1
    · rw [e, upd_same, upd_same, hg]; omega
    · rw [upd_ne e, upd_ne (fun e' => e (h.cn_inj hd' (by omega) e'))]
      exact f.gr d hd'
  · show K + s.rch + sumTo (s.adv low').r n ≤ T
    have := f.tot
    omega

theorem TF.pop {T K : Nat} (f : TF n F T K s) (h : TInv A n F G s ex) (hD : 0 < s.D) (hc : ¬ s.cx (s.D - 1) < F (s.cn (s.D - 1) + 1)) (s' : TS) (e1 : s'.idx = s.idx) (e2 : s'.rch = s.rch) (e3 : s'.D = s.D - 1) (e4 : s'.cn = s.cn) (e5 : s'.cx = s.cx) (e6 : s'.r = upd s.r (s.cn (s.D - 1)) 0) :
    TF n F T (K + 1) s' ∧ sumTo s'.r n + 1 = sumTo s.r n := by
  have hv := (h.on_idx (h.cnS (s.D - 1) (by omega)))
  have hg := f.gr (s.D - 1) (by omega)
  have hs := sumTo_upd s.r (s.cn (s.D - 1)) 0 n hv.2
  have hsum : sumTo s'.r n + 1 = sumTo s.r n := by
    rw [e6]
    omega
  refine ⟨{ un := ?_, gr := ?_, tot := ?_ }, hsum⟩
  · intro x hx hx0
    rw [e1] at hx0
    have e : x ≠ s.cn (s.D - 1) := fun e => hv.1 (by rw [← e]; exact hx0)
    rw [e6, upd_ne e]; exact f.un x hx hx0
  · intro d hd
    rw [e3] at hd
    rw [e4, e5, e6, upd_ne (fun e' => by have := h.cn_inj (show d < s.D by omega) (show s.D - 1 < s.D by omega) e'; omega)]
    exact f.gr d (by omega)
  · rw [e2]
    have := f.tot
    omega

theorem TF.less {T K K' : Nat} (f : TF n F T K s) (h : K' ≤ K) : TF n F T K' s := { f with tot := by have := f.tot; omega }

/-! ### The classes that are listed -/

structure TC (A : Nat → Nat → Prop) (n : Nat) (dn : Nat → Prop) (K : Nat) (ln : Nat → Nat) (C : Nat → Nat → Nat) : Prop where
  big : ∀ c, c < K → 1 < ln c
  lst : ∀ c, c < K → Lst A (C c 0) n (ln c) (C c)
  dne : ∀ c, c < K → dn (C c 0)
  dis : ∀ c d, c < d → d < K → C c 0 ≠ C d 0
  all : ∀ x y, dn x → x ≠ y → Mut A x y → ∃ c, c < K ∧ Mut A (C c 0) x

def TS.dn (s : TS) (x : Nat) : Prop := s.idx x ≠ 0 ∧ s.on x = false

theorem tc_start (A : Nat → Nat → Prop) (n : Nat) (r : Nat → Nat) (ln : Nat → Nat) (C : Nat → Nat → Nat) : TC A n (TS.start r).dn 0 ln C :=
  { big := fun c hc => absurd hc (Nat.not_lt_zero _), lst := fun c hc => absurd hc (Nat.not_lt_zero _), dne := fun c hc => absurd hc (Nat.not_lt_zero _), dis := fun c d _ hc => absurd hc (Nat.not_lt_zero _), all := fun x y hx => absurd rfl hx.1 }

theorem TC.congr {dn dn' : Nat → Prop} {K : Nat} {ln : Nat → Nat} {C : Nat → Nat → Nat} (h : TC A n dn K ln C) (e : ∀ x, dn' x ↔ dn x) : TC A n dn' K ln C :=
  { h with dne := fun c hc => (e _).2 (h.dne c hc), all := fun x y hx => h.all x y ((e x).1 hx) }

theorem TInv.dn_visit (h : TInv A n F G s ex) {v : Nat} (h0 : s.idx v = 0) (x : Nat) : (s.visit F v).dn x ↔ s.dn x := by
  show (upd s.idx v _ x ≠ 0 ∧ upd s.on v true x = false) ↔ _
  by_cases e : x = v
  · subst e; rw [upd_same, upd_same]; constructor
    · rintro ⟨_, h⟩; cases h
    · rintro ⟨h1, _⟩; exact absurd h0 h1
  · rw [upd_ne e, upd_ne e]; exact Iff.rfl

/-- A class is listed. -/
theorem TC.push {dn dn' : Nat → Prop} {K : Nat} {ln : Nat → Nat} {C : Nat → Nat → Nat} (h : TC A n dn K ln C) {v len : Nat} {f : Nat → Nat} (hl : Lst A v n len f) (h1 : 1 < len) (hv : ¬ dn v) (hcl : ∀ x y, dn x → Mut A x y → dn y) (hd : ∀ x, dn' x ↔ dn x ∨ Mut A v x) :
    TC A n dn' (K + 1) (upd ln K len) (upd C K f) := by
  have h0 := (hl.mem 0 (by omega)).2
  refine { big := ?_, lst := ?_, dne := ?_, dis := ?_, all := ?_ }
  · intro c hc
    by_cases e : c = K
    · rw [e, upd_same]; exact h1
    · rw [upd_ne e]; exact h.big c (by omega)
  · intro c hc
    by_cases e : c = K
    · rw [e, upd_same, upd_same]
      exact { mem := fun i hi => ⟨(hl.mem i hi).1, h0.symm.trans (hl.mem i hi).2⟩, all := fun x hx hm => hl.all x hx (h0.trans hm), inc := hl.inc, le := hl.le }
    · rw [upd_ne e, upd_ne e]; exact h.lst c (by omega)
  · intro c hc
    by_cases e : c = K
    · rw [e, upd_same]; exact (hd _).2 (.inr h0)
    · rw [upd_ne e]; exact (hd _).2 (.inl (h.dne c (by omega)))
  · intro c d hcd hd'
    by_cases e : d = K
    · rw [e, upd_same, upd_ne (by omega)]
      intro e2
      have := h.dne c (by omega)
      rw [e2] at this
      exact hv (hcl _ _ this h0.symm)
    · rw [upd_ne e, upd_ne (by omega)]; exact h.dis c d hcd (by omega)
  · intro x y hx hne hm
    rcases (hd x).1 hx with hx | hx
    · obtain ⟨c, hc, h2⟩ := h.all x y hx hne hm
      exact ⟨c, by omega, by rw [upd_ne (by omega)]; exact h2⟩
    · exact ⟨K, by omega, by rw [upd_same]; exact h0.symm.trans hx⟩

/-- A class of one node. -/
theorem TC.single {dn dn' : Nat → Prop} {K : Nat} {ln : Nat → Nat} {C : Nat → Nat → Nat} (h : TC A n dn K ln C) {v : Nat} (h1 : ∀ y, Mut A v y → y = v) (hd : ∀ x, dn' x ↔ dn x ∨ Mut A v x) : TC A n dn' K ln C :=
  { h with
    dne := fun c hc => (hd _).2 (.inl (h.dne c hc))
    all := fun x y hx hne hm => by
      rcases (hd x).1 hx with hx | hx
      · exact h.all x y hx hne hm
      · exact absurd ((h1 x hx).trans (h1 y (hx.trans hm)).symm) hne }

/-- What is done when the top is left with its class. -/
theorem TInv.dn_popB (h : TInv A n F G s NoEx) (hD : 0 < s.D) (hC : ∀ y, A (s.cn (s.D - 1)) y → ∃ e, F (s.cn (s.D - 1)) ≤ e ∧ e < F (s.cn (s.D - 1) + 1) ∧ G e = y) (hc : ¬ s.cx (s.D - 1) < F (s.cn (s.D - 1) + 1))
    (hl : s.low (s.cn (s.D - 1)) = s.idx (s.cn (s.D - 1))) (low' : Nat → Nat) (k : Nat) (on' : Nat → Bool) (hon : ∀ x, on' x = true ↔ s.on x = true ∧ s.idx x < s.idx (s.cn (s.D - 1))) (x : Nat) :
    (s.popB low' k on').dn x ↔ s.dn x ∨ Mut A (s.cn (s.D - 1)) x := by
  rw [h.cls hD hC hc hl x]
  show (s.idx x ≠ 0 ∧ on' x = false) ↔ _
  constructor
  · rintro ⟨h1, h2⟩
    cases e : s.on x with
    | false => exact .inl ⟨h1, e⟩
    | true =>
      right
      refine ⟨rfl, ?_⟩
      rcases Nat.lt_or_ge (s.idx x) (s.idx (s.cn (s.D - 1))) with h3 | h3
      · have := (hon x).2 ⟨e, h3⟩; rw [h2] at this; cases this
      · exact h3
  · rintro (⟨h1, h2⟩ | ⟨h1, h2⟩)
    · refine ⟨h1, ?_⟩
      cases e : on' x with
      | false => rfl
      | true => have := ((hon x).1 e).1; rw [h2] at this; cases this
    · refine ⟨(h.on_idx h1).1, ?_⟩
      cases e : on' x with
      | false => rfl
      | true => have := ((hon x).1 e).2; omega

/-! ### The list of classes is one of its kind -/

theorem enum_unique {K K' : Nat} {f g : Nat → Nat} (hf : ∀ c d, c < d → d < K → f c < f d) (hg : ∀ c d, c < d → d < K' → g c < g d) (h1 : ∀ c, c < K → ∃ d, d < K' ∧ g d = f c) (h2 : ∀ c, c < K' → ∃ d, d < K ∧ f d = g c) :
    ∀ c, c < K → c < K' ∧ f c = g c := by
  intro c
  induction c using Nat.strongRecOn with
  | _ c ih =>
    intro hc
    obtain ⟨d, hd, e⟩ := h1 c hc
    have hdc : c ≤ d := by
      rcases Nat.lt_or_ge d c with h | h
      · have h3 := (ih d h (by omega)).2
        have := hf d c h hc
        omega
      · exact h
    have hcK : c < K' := by omega
    refine ⟨hcK, ?_⟩
    obtain ⟨x, hx, ex⟩ := h2 c hcK
    have hxc : c ≤ x := by
      rcases Nat.lt_or_ge x c with h | h
      · have h3 := (ih x h hx).2
        have := hg x c h hcK
        omega
      · exact h
    have a1 : f c ≤ f x := by
      rcases Nat.lt_or_ge c x with h | h
      · exact Nat.le_of_lt (hf c x h hx)
      · rw [show c = x from by omega]; exact Nat.le_refl _
    have a2 : g c ≤ g d := by
      rcases Nat.lt_or_ge c d with h | h
      · exact Nat.le_of_lt (hg c d h hd)
      · rw [show c = d from by omega]; exact Nat.le_refl _
    omega

theorem Cls.least {K : Nat} {ln : Nat → Nat} {C : Nat → Nat → Nat} (h : Cls A n n K ln C) {c : Nat} (hc : c < K) {x : Nat} (hx : x < n) (hm : Mut A (C c 0) x) : C c 0 ≤ x := by
  obtain ⟨i, hi, rfl⟩ := (h.lst c hc).all x hx hm
  rcases Nat.eq_zero_or_pos i with e | e
  · rw [e]; exact Nat.le_refl _
  · exact Nat.le_of_lt ((h.lst c hc).inc 0 i e hi)

theorem Cls.firsts {K K' : Nat} {ln ln' : Nat → Nat} {C C' : Nat → Nat → Nat} (h : Cls A n n K ln C) (h' : Cls A n n K' ln' C') : ∀ c, c < K → ∃ d, d < K' ∧ C' d 0 = C c 0 := fun c hc => by
  have hb := h.big c hc
  have m0 := (h.lst c hc).mem 0 (by omega)
  have m1 := (h.lst c hc).mem 1 (by omega)
  have hne := (h.lst c hc).inc 0 1 (by omega) (by omega)
  obtain ⟨d, hd, i, hi, e⟩ := h'.all (C c 0) (C c 1) m0.1 m1.1 (by omega) m1.2 ⟨C c 0, m0.1, Mut.refl _⟩
  refine ⟨d, hd, ?_⟩
  have hm := (h'.lst d hd).mem i hi
  rw [e] at hm
  have hb' := h'.big d hd
  have k0 := (h'.lst d hd).mem 0 (by omega)
  have := h.least hc k0.1 hm.2.symm
  have := h'.least hd m0.1 hm.2
  omega

theorem Cls.unique {K K' : Nat} {ln ln' : Nat → Nat} {C C' : Nat → Nat → Nat} (h : Cls A n n K ln C) (h' : Cls A n n K' ln' C') : K = K' ∧ ∀ c, c < K → ln c = ln' c ∧ ∀ i, i < ln c → C c i = C' c i := by
  have e1 := enum_unique h.ord h'.ord (h.firsts h') (h'.firsts h)
  have e2 := enum_unique h'.ord h.ord (h'.firsts h) (h.firsts h')
  have hK : K = K' := by
    rcases Nat.lt_trichotomy K K' with h3 | h3 | h3
    · have := (e2 K h3).1; omega
    · exact h3
    · have := (e1 K' h3).1; omega
  refine ⟨hK, fun c hc => ?_⟩
  obtain ⟨hc', e⟩ := e1 c hc
  have l1 := h.lst c hc
  have l2 := h'.lst c hc'
  rw [← e] at l2
  have f1 : ∀ i, i < ln c → ∃ j, j < ln' c ∧ C' c j = C c i := fun i hi => l2.all _ (l1.mem i hi).1 (l1.mem i hi).2
  have f2 : ∀ i, i < ln' c → ∃ j, j < ln c ∧ C c j = C' c i := fun i hi => l1.all _ (l2.mem i hi).1 (l2.mem i hi).2
  have g1 := enum_unique l1.inc l2.inc f1 f2
  have g2 := enum_unique l2.inc l1.inc f2 f1
  refine ⟨?_, fun i hi => (g1 i hi).2⟩
  rcases Nat.lt_trichotomy (ln c) (ln' c) with h3 | h3 | h3
  · have := (g2 _ h3).1; omega
  · exact h3
  · have := (g1 _ h3).1; omega

/-- All is done: sorted by their least nodes, the classes are the list. -/
theorem TC.cls {dn : Nat → Prop} {K : Nat} {ln : Nat → Nat} {C : Nat → Nat → Nat} (h : TC A n dn K ln C) (hd : ∀ x, x < n → dn x) (p : Nat → Nat) (hp : ∀ c, c < K → p c < K) (hs : ∀ c, c < K → ∃ d, d < K ∧ p d = c) (ho : ∀ c d, c < d → d < K → C (p c) 0 < C (p d) 0) :
    Cls A n n K (fun c => ln (p c)) (fun c => C (p c)) := by
  have hlow : ∀ c, c < K → C (p c) 0 < n := fun c hc => ((h.lst (p c) (hp c hc)).mem 0 (by have := h.big (p c) (hp c hc); omega)).1
  have hle : ∀ c, c < K → c ≤ C (p c) 0 := fun c => by
    induction c with
    | zero => intro _; exact Nat.zero_le _
    | succ c ih =>
      intro hc
      have := ih (by omega)
      have := ho c (c + 1) (by omega) hc
      omega
  refine { big := fun c hc => h.big _ (hp c hc), lst := fun c hc => h.lst _ (hp c hc), low := hlow, ord := ho, all := ?_, few := ?_ }
  · intro x y hx hy hne hm _
    obtain ⟨c, hc, h1⟩ := h.all x y (hd x hx) hne hm
    obtain ⟨d, hd', e⟩ := hs c hc
    obtain ⟨i, hi, e2⟩ := (h.lst c hc).all x hx h1
    exact ⟨d, hd', i, by rw [e]; exact hi, by rw [e]; exact e2⟩
  · rcases Nat.eq_zero_or_pos K with e | e
    · omega
    · have := hle (K - 1) (by omega)
      have := hlow (K - 1) (by omega)
      omega

end Go.Proofs.Qxb6600486a

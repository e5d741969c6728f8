/-
  TARJAN's SEARCH, PLAIN: the state, the law that it keeps, the steps. No Go here.
-/
import Derived.Test.Qxb6600486aClasses
set_option linter.unusedVariables false
set_option linter.unusedSimpArgs false
namespace Go.Proofs.Qxb6600486a

/-- The search's state. r: what is left to do at a node (for the count alone). -/
structure TS where
  rch : Nat
  idx : Nat → Nat
  low : Nat → Nat
  on : Nat → Bool
  S : Nat
  st : Nat → Nat
  D : Nat
  cn : Nat → Nat
  cx : Nat → Nat
  r : Nat → Nat

/-- The edge from x to y has been looked at. -/
def Proc (A : Nat → Nat → Prop) (F G : Nat → Nat) (s : TS) (x y : Nat) : Prop :=
  (∃ d, d < s.D ∧ s.cn d = x ∧ ∃ e, F x ≤ e ∧ e < s.cx d ∧ G e = y) ∨ ((∀ d, d < s.D → s.cn d ≠ x) ∧ A x y)

/-- The law. ex: nodes that an edge has led to and that are about to be visited. -/
structure TInv (A : Nat → Nat → Prop) (n : Nat) (F G : Nat → Nat) (s : TS) (ex : Nat → Prop) : Prop where
  onS : ∀ v, s.on v = true ↔ ∃ i, i < s.S ∧ s.st i = v
  stn : ∀ i, i < s.S → s.st i < n ∧ 0 < s.idx (s.st i)
  inc : ∀ i j, i < j → j < s.S → s.idx (s.st i) < s.idx (s.st j)
  cnS : ∀ d, d < s.D → s.on (s.cn d) = true
  cinc : ∀ d d', d < d' → d' < s.D → s.idx (s.cn d) < s.idx (s.cn d')
  cxr : ∀ d, d < s.D → F (s.cn d) ≤ s.cx d ∧ s.cx d ≤ F (s.cn d + 1)
  idn : ∀ v, s.idx v ≠ 0 → v < n
  idr : ∀ v, s.idx v ≤ s.rch
  done : ∀ x y, s.idx x ≠ 0 → s.on x = false → A x y → s.idx y ≠ 0 ∧ s.on y = false
  up : ∀ x, s.on x = true → ∃ d, d < s.D ∧ s.idx (s.cn d) ≤ s.idx x ∧ Reach A x (s.cn d)
  dn : ∀ d, d < s.D → ∀ x, s.on x = true → s.idx (s.cn d) ≤ s.idx x → Reach A (s.cn d) x
  seen : ∀ x y, s.on x = true → Proc A F G s x y → s.idx y ≠ 0 ∨ ex y
  lw : ∀ d, d < s.D → ∀ x, s.on x = true → s.idx (s.cn d) ≤ s.idx x → (d + 1 < s.D → s.idx x < s.idx (s.cn (d + 1))) → ∀ y, Proc A F G s x y → s.on y = true → s.low (s.cn d) ≤ s.idx y
  ls : ∀ d, d < s.D → s.low (s.cn d) ≤ s.idx (s.cn d) ∧ ∃ y, s.on y = true ∧ s.idx y = s.low (s.cn d) ∧ Reach A (s.cn d) y

def NoEx : Nat → Prop := fun _ => False

def TS.start (r : Nat → Nat) : TS := { rch := 0, idx := fun _ => 0, low := fun _ => 0, on := fun _ => false, S := 0, st := fun _ => 0, D := 0, cn := fun _ => 0, cx := fun _ => 0, r := r }

theorem tinv_start (A : Nat → Nat → Prop) (n : Nat) (F G r : Nat → Nat) : TInv A n F G (TS.start r) NoEx :=
  { onS := fun v => ⟨fun h => (by cases h), fun ⟨i, hi, _⟩ => absurd hi (Nat.not_lt_zero _)⟩
    stn := fun i hi => absurd hi (Nat.not_lt_zero _)
    inc := fun i j _ hj => absurd hj (Nat.not_lt_zero _)
    cnS := fun d hd => absurd hd (Nat.not_lt_zero _)
    cinc := fun d d' _ hd => absurd hd (Nat.not_lt_zero _)
    cxr := fun d hd => absurd hd (Nat.not_lt_zero _)
    idn := fun v hv => absurd rfl hv
    idr := fun v => Nat.le_refl _
    done := fun x y hx => absurd rfl hx
    up := fun x hx => by cases hx
    dn := fun d hd => absurd hd (Nat.not_lt_zero _)
    seen := fun x y hx => by cases hx
    lw := fun d hd => absurd hd (Nat.not_lt_zero _)
    ls := fun d hd => absurd hd (Nat.not_lt_zero _) }

variable {A : Nat → Nat → Prop} {n : Nat} {F G : Nat → Nat} {s : TS} {ex : Nat → Prop}

theorem TInv.on_idx (h : TInv A n F G s ex) {x : Nat} (hx : s.on x = true) : s.idx x ≠ 0 ∧ x < n := by
  obtain ⟨i, hi, rfl⟩ := (h.onS x).1 hx
  have := h.stn i hi
  exact ⟨by omega, this.1⟩

theorem TInv.on_inj (h : TInv A n F G s ex) {x y : Nat} (hx : s.on x = true) (hy : s.on y = true) (e : s.idx x = s.idx y) : x = y := by
  obtain ⟨i, hi, rfl⟩ := (h.onS x).1 hx
  obtain ⟨j, hj, rfl⟩ := (h.onS y).1 hy
  rcases Nat.lt_trichotomy i j with h1 | h1 | h1
  · have := h.inc i j h1 hj; omega
  · rw [h1]
  · have := h.inc j i h1 hi; omega

theorem TInv.cn_inj (h : TInv A n F G s ex) {d d' : Nat} (hd : d < s.D) (hd' : d' < s.D) (e : s.cn d = s.cn d') : d = d' := by
  rcases Nat.lt_trichotomy d d' with h1 | h1 | h1
  · have := h.cinc d d' h1 hd'; rw [e] at this; omega
  · exact h1
  · have := h.cinc d' d h1 hd; rw [e] at this; omega

theorem TInv.proc_at (h : TInv A n F G s ex) {d : Nat} (hd : d < s.D) {y : Nat} (hp : Proc A F G s (s.cn d) y) : ∃ e, F (s.cn d) ≤ e ∧ e < s.cx d ∧ G e = y := by
  rcases hp with ⟨d', hd', e1, e2⟩ | ⟨h1, _⟩
  · have := h.cn_inj hd' hd e1
    subst this
    exact e2
  · exact absurd rfl (h1 d hd)

/-- Every stack's place lies below the count. -/
theorem TInv.st_lt (h : TInv A n F G s ex) : ∀ i, i < s.S → i < s.idx (s.st i)
  | 0, hi => (h.stn 0 hi).2
  | i + 1, hi => by
    have := h.st_lt i (by omega)
    have := h.inc i (i + 1) (by omega) hi
    omega

theorem TInv.S_le (h : TInv A n F G s ex) : s.S ≤ s.rch := by
  rcases Nat.eq_zero_or_pos s.S with e | e
  · omega
  · have := h.st_lt (s.S - 1) (by omega)
    have := h.idr (s.st (s.S - 1))
    omega

theorem TInv.cn_lt (h : TInv A n F G s ex) : ∀ d, d < s.D → d < s.idx (s.cn d)
  | 0, hd => by have := (h.on_idx (h.cnS 0 hd)).1; omega
  | d + 1, hd => by
    have := h.cn_lt d (by omega)
    have := h.cinc d (d + 1) (by omega) hd
    omega

theorem TInv.D_le (h : TInv A n F G s ex) : s.D ≤ s.rch := by
  rcases Nat.eq_zero_or_pos s.D with e | e
  · omega
  · have := h.cn_lt (s.D - 1) (by omega)
    have := h.idr (s.cn (s.D - 1))
    omega

/-! ### A visit -/

def TS.visit (s : TS) (F : Nat → Nat) (v : Nat) : TS :=
  { rch := s.rch + 1, idx := upd s.idx v (s.rch + 1), low := upd s.low v (s.rch + 1), on := upd s.on v true, S := s.S + 1, st := upd s.st s.S v, D := s.D + 1, cn := upd s.cn s.D v, cx := upd s.cx s.D (F v), r := upd s.r v (F (v + 1) - F v + 1) }

theorem TInv.visit (h : TInv A n F G s ex) (v : Nat) (hv : v < n) (hF : F v ≤ F (v + 1)) (h0 : s.idx v = 0) (hex : ∀ y, ex y → y = v) (hA : 0 < s.D → A (s.cn (s.D - 1)) v) : TInv A n F G (s.visit F v) NoEx := by
  have hoff : s.on v = false := by
    cases e : s.on v with
    | false => rfl
    | true => exact absurd h0 (h.on_idx e).1
  have hne : ∀ x, s.on x = true → x ≠ v := fun x hx e => by rw [e, hoff] at hx; cases hx
  have hon : ∀ x, (s.visit F v).on x = true ↔ s.on x = true ∨ x = v := fun x => by
    show upd s.on v true x = true ↔ _
    by_cases e : x = v
    · subst e; rw [upd_same]; simp
    · rw [upd_ne e]; simp [e]
  have hid : ∀ x, x ≠ v → (s.visit F v).idx x = s.idx x := fun x e => upd_ne e
  have hidv : (s.visit F v).idx v = s.rch + 1 := upd_same _ _ _
  have hlo : ∀ x, x ≠ v → (s.visit F v).low x = s.low x := fun x e => upd_ne e
  have hlov : (s.visit F v).low v = s.rch + 1 := upd_same _ _ _
  have hcn : ∀ d, d < s.D → (s.visit F v).cn d = s.cn d := fun d e => upd_ne (by omega)
  have hcnv : (s.visit F v).cn s.D = v := upd_same _ _ _
  have hcx : ∀ d, d < s.D → (s.visit F v).cx d = s.cx d := fun d e => upd_ne (by omega)
  have hcxv : (s.visit F v).cx s.D = F v := upd_same _ _ _
  have hD : (s.visit F v).D = s.D + 1 := rfl
  have hS : (s.visit F v).S = s.S + 1 := rfl
  have hst : ∀ i, i < s.S → (s.visit F v).st i = s.st i := fun d e => upd_ne (by omega)
  have hstv : (s.visit F v).st s.S = v := upd_same _ _ _
  have hcne : ∀ d, d < s.D → s.cn d ≠ v := fun d hd => hne _ (h.cnS d hd)
  have hsne : ∀ i, i < s.S → s.st i ≠ v := fun i hi => hne _ ((h.onS _).2 ⟨i, hi, rfl⟩)
  have hrch : (s.visit F v).rch = s.rch + 1 := rfl
  -- what has been looked at
  have hpr : ∀ x y, x ≠ v → Proc A F G (s.visit F v) x y → Proc A F G s x y := by
    rintro x y hx (⟨d, hd, e1, e, e2, e3, e4⟩ | ⟨h1, h2⟩)
    · have hd' : d < s.D := by
        rcases Nat.lt_or_ge d s.D with h | h
        · exact h
        · have : d = s.D := by rw [hD] at hd; omega
          rw [this, hcnv] at e1
          exact absurd e1.symm hx
      rw [hcn d hd'] at e1
      rw [hcx d hd'] at e3
      exact .inl ⟨d, hd', e1, e, e2, e3, e4⟩
    · exact .inr ⟨fun d hd e => h1 d (by rw [hD]; omega) (by rw [hcn d hd]; exact e), h2⟩
  have hprv : ∀ y, ¬ Proc A F G (s.visit F v) v y := by
    rintro y (⟨d, hd, e1, e, e2, e3, e4⟩ | ⟨h1, h2⟩)
    · rcases Nat.lt_or_ge d s.D with h' | h'
      · rw [hcn d h'] at e1
        exact hcne d h' e1
      · have : d = s.D := by rw [hD] at hd; omega
        rw [this, hcxv] at e3
        omega
    · exact h1 s.D (by rw [hD]; omega) hcnv
  refine { onS := ?_, stn := ?_, inc := ?_, cnS := ?_, cinc := ?_, cxr := ?_, idn := ?_, idr := ?_, done := ?_, up := ?_, dn := ?_, seen := ?_, lw := ?_, ls := ?_ }
  · intro x
    rw [hon]
    constructor
    · rintro (hx | rfl)
      · obtain ⟨i, hi, e⟩ := (h.onS x).1 hx
        exact ⟨i, by rw [hS]; omega, by rw [hst i hi]; exact e⟩
      · exact ⟨s.S, by rw [hS]; omega, hstv⟩
    · rintro ⟨i, hi, e⟩
      rcases Nat.lt_or_ge i s.S with h' | h'
      · rw [hst i h'] at e
        exact .inl ((h.onS x).2 ⟨i, h', e⟩)
      · have : i = s.S := by rw [hS] at hi; omega
        rw [this, hstv] at e
        exact .inr e.symm
  · intro i hi
    rcases Nat.lt_or_ge i s.S with h' | h'
    · rw [hst i h', hid _ (hsne i h')]; exact h.stn i h'
    · have : i = s.S := by rw [hS] at hi; omega
      rw [this, hstv, hidv]; exact ⟨hv, by omega⟩
  · intro i j hij hj
    rcases Nat.lt_or_ge j s.S with h' | h'
    · rw [hst i (by omega), hst j h', hid _ (hsne i (by omega)), hid _ (hsne j h')]
      exact h.inc i j hij h'
    · have : j = s.S := by rw [hS] at hj; omega
      rw [this, hstv, hidv, hst i (by omega), hid _ (hsne i (by omega))]
      have := h.idr (s.st i)
      omega
  · intro d hd
    rw [hon]
    rcases Nat.lt_or_ge d s.D with h' | h'
    · rw [hcn d h']; exact .inl (h.cnS d h')
    · have : d = s.D := by rw [hD] at hd; omega
      rw [this, hcnv]; exact .inr rfl
  · intro d d' hdd hd
    rcases Nat.lt_or_ge d' s.D with h' | h'
    · rw [hcn d (by omega), hcn d' h', hid _ (hcne d (by omega)), hid _ (hcne d' h')]
      exact h.cinc d d' hdd h'
    · have : d' = s.D := by rw [hD] at hd; omega
      rw [this, hcnv, hidv, hcn d (by omega), hid _ (hcne d (by omega))]
      have := h.idr (s.cn d)
      omega
  · intro d hd
    rcases Nat.lt_or_ge d s.D with h' | h'
    · rw [hcn d h', hcx d h']; exact h.cxr d h'
    · have : d = s.D := by rw [hD] at hd; omega
      rw [this, hcnv, hcxv]; exact ⟨Nat.le_refl _, hF⟩
  · intro x hx
    by_cases e : x = v
    · rw [e]; exact hv
    · rw [hid x e] at hx; exact h.idn x hx
  · intro x
    rw [hrch]
    by_cases e : x = v
    · rw [e, hidv]; omega
    · rw [hid x e]; have := h.idr x; omega
  · intro x y hx hxo hA'
    have hxv : x ≠ v := fun e => by have := (hon x).2 (.inr e); rw [hxo] at this; cases this
    rw [hid x hxv] at hx
    have hxo' : s.on x = false := by
      cases e : s.on x with
      | false => rfl
      | true => have := (hon x).2 (.inl e); rw [hxo] at this; cases this
    have hy := h.done x y hx hxo' hA'
    have hyv : y ≠ v := fun e => by rw [e] at hy; exact hy.1 h0
    refine ⟨by rw [hid y hyv]; exact hy.1, ?_⟩
    cases e : (s.visit F v).on y with
    | false => rfl
    | true =>
      rcases (hon y).1 e with h1 | h1
      · rw [hy.2] at h1; cases h1
      · exact absurd h1 hyv
  · intro x hx
    rcases (hon x).1 hx with h1 | rfl
    · obtain ⟨d, hd, h2, h3⟩ := h.up x h1
      exact ⟨d, by rw [hD]; omega, by rw [hcn d hd, hid _ (hcne d hd), hid _ (hne x h1)]; exact h2, by rw [hcn d hd]; exact h3⟩
    · exact ⟨s.D, by rw [hD]; omega, by rw [hcnv]; exact Nat.le_refl _, by rw [hcnv]; exact Reach.refl _⟩
  · intro d hd x hx hle
    rcases Nat.lt_or_ge d s.D with h' | h'
    · rw [hcn d h'] at hle ⊢
      rcases (hon x).1 hx with h1 | rfl
      · rw [hid _ (hcne d h'), hid _ (hne x h1)] at hle
        exact h.dn d h' x h1 hle
      · refine Reach.step (b := s.cn (s.D - 1)) ?_ (hA (by omega))
        refine h.dn d h' _ (h.cnS _ (by omega)) ?_
        rcases Nat.lt_or_ge d (s.D - 1) with h2 | h2
        · exact Nat.le_of_lt (h.cinc d (s.D - 1) h2 (by omega))
        · rw [show d = s.D - 1 from by omega]; exact Nat.le_refl _
    · have : d = s.D := by rw [hD] at hd; omega
      rw [this, hcnv] at hle ⊢
      rcases (hon x).1 hx with h1 | rfl
      · rw [hidv, hid _ (hne x h1)] at hle
        have := h.idr x
        omega
      · exact Reach.refl _
  · intro x y hx hp
    left
    by_cases e : x = v
    · rw [e] at hp; exact absurd hp (hprv y)
    · have hx' : s.on x = true := by
        rcases (hon x).1 hx with h1 | h1
        · exact h1
        · exact absurd h1 e
      rcases h.seen x y hx' (hpr x y e hp) with h1 | h1
      · have hyv : y ≠ v := fun e => by rw [e] at h1; exact h1 h0
        rw [hid y hyv]; exact h1
      · rw [hex y h1, hidv]; omega
  · intro d hd x hx hle hlt y hp hy
    by_cases e : x = v
    · rw [e] at hp; exact absurd hp (hprv y)
    · have hx' : s.on x = true := by
        rcases (hon x).1 hx with h1 | h1
        · exact h1
        · exact absurd h1 e
      have hp' := hpr x y e hp
      have hd' : d < s.D := by
        rcases Nat.lt_or_ge d s.D with h' | h'
        · exact h'
        · have : d = s.D := by rw [hD] at hd; omega
          rw [this, hcnv, hidv, hid x e] at hle
          have := h.idr x
          omega
      rw [hcn d hd', hid _ (hcne d hd'), hid x e] at hle
      rw [hcn d hd', hlo _ (hcne d hd')]
      rcases (hon y).1 hy with h1 | rfl
      · rw [hid y (hne y h1)]
        refine h.lw d hd' x hx' hle (fun h2 => ?_) y hp' h1
        have := hlt (by rw [hD]; omega)
        rw [hcn (d + 1) h2, hid _ (hcne _ h2), hid x e] at this
        exact this
      · rw [hidv]
        have := (h.ls d hd').1
        have := h.idr (s.cn d)
        omega
  · intro d hd
    rcases Nat.lt_or_ge d s.D with h' | h'
    · rw [hcn d h', hlo _ (hcne d h'), hid _ (hcne d h')]
      obtain ⟨h1, y, h2, h3, h4⟩ := h.ls d h'
      exact ⟨h1, y, (hon y).2 (.inl h2), by rw [hid y (hne y h2)]; exact h3, h4⟩
    · have : d = s.D := by rw [hD] at hd; omega
      rw [this, hcnv, hlov, hidv]
      exact ⟨Nat.le_refl _, v, (hon v).2 (.inr rfl), hidv, Reach.refl _⟩

/-! ### An edge is looked at -/

/-- The top's next edge is taken; low' : the new low. -/
def TS.adv (s : TS) (low' : Nat → Nat) : TS := { s with cx := upd s.cx (s.D - 1) (s.cx (s.D - 1) + 1), low := low', r := upd s.r (s.cn (s.D - 1)) (s.r (s.cn (s.D - 1)) - 1) }

theorem TInv.adv (h : TInv A n F G s NoEx) (hD : 0 < s.D) (hC : ∀ e, F (s.cn (s.D - 1)) ≤ e → e < F (s.cn (s.D - 1) + 1) → A (s.cn (s.D - 1)) (G e)) (hc : s.cx (s.D - 1) < F (s.cn (s.D - 1) + 1)) (low' : Nat → Nat)
    (hl1 : ∀ x, x ≠ s.cn (s.D - 1) → low' x = s.low x) (hl2 : low' (s.cn (s.D - 1)) ≤ s.low (s.cn (s.D - 1))) (hl3 : s.on (G (s.cx (s.D - 1))) = true → low' (s.cn (s.D - 1)) ≤ s.idx (G (s.cx (s.D - 1))))
    (hl4 : ∃ y, s.on y = true ∧ s.idx y = low' (s.cn (s.D - 1)) ∧ Reach A (s.cn (s.D - 1)) y) (hex : s.idx (G (s.cx (s.D - 1))) ≠ 0 ∨ ex (G (s.cx (s.D - 1)))) : TInv A n F G (s.adv low') ex := by
  have hcx : ∀ d, d ≠ s.D - 1 → (s.adv low').cx d = s.cx d := fun d e => upd_ne e
  have hcxv : (s.adv low').cx (s.D - 1) = s.cx (s.D - 1) + 1 := upd_same _ _ _
  have hpr : ∀ x y, Proc A F G (s.adv low') x y → Proc A F G s x y ∨ (x = s.cn (s.D - 1) ∧ y = G (s.cx (s.D - 1))) := by
    rintro x y (⟨d, hd, e1, e, e2, e3, e4⟩ | ⟨h1, h2⟩)
    · by_cases ed : d = s.D - 1
      · rw [ed, hcxv] at e3
        by_cases ee : e = s.cx (s.D - 1)
        · right
          rw [ed] at e1
          exact ⟨e1.symm, by rw [← e4, ee]⟩
        · left
          exact .inl ⟨d, hd, e1, e, e2, by rw [ed]; omega, e4⟩
      · rw [hcx d ed] at e3
        exact .inl (.inl ⟨d, hd, e1, e, e2, e3, e4⟩)
    · exact .inl (.inr ⟨h1, h2⟩)
  refine { onS := h.onS, stn := h.stn, inc := h.inc, cnS := h.cnS, cinc := h.cinc, cxr := ?_, idn := h.idn, idr := h.idr, done := h.done, up := h.up, dn := h.dn, seen := ?_, lw := ?_, ls := ?_ }
  · intro d hd
    have hr := h.cxr d hd
    by_cases ed : d = s.D - 1
    · rw [ed] at hr ⊢
      rw [hcxv]
      show F (s.cn (s.D - 1)) ≤ _ ∧ _ ≤ F (s.cn (s.D - 1) + 1)
      omega
    · rw [hcx d ed]; exact hr
  · intro x y hx hp
    rcases hpr x y hp with hp | ⟨rfl, rfl⟩
    · rcases h.seen x y hx hp with h1 | h1
      · exact .inl h1
      · exact h1.elim
    · exact hex
  · intro d hd x hx hle hlt y hp hy
    have key : low' (s.cn d) ≤ s.low (s.cn d) := by
      by_cases e : s.cn d = s.cn (s.D - 1)
      · rw [e]; exact hl2
      · rw [hl1 _ e]; exact Nat.le_refl _
    show low' (s.cn d) ≤ s.idx y
    rcases hpr x y hp with hp | ⟨rfl, rfl⟩
    · exact Nat.le_trans key (h.lw d hd x hx hle hlt y hp hy)
    · by_cases e : d = s.D - 1
      · rw [e]; exact hl3 hy
      · have h2 : d + 1 < s.D := by have : d < s.D := hd; omega
        have := hlt h2
        have h3 : s.idx (s.cn (s.D - 1)) < s.idx (s.cn (d + 1)) := this
        rcases Nat.lt_or_ge (d + 1) (s.D - 1) with h4 | h4
        · have := h.cinc (d + 1) (s.D - 1) h4 (by omega); omega
        · rw [show d + 1 = s.D - 1 from by omega] at h3; omega
  · intro d hd
    show low' (s.cn d) ≤ s.idx (s.cn d) ∧ ∃ y, s.on y = true ∧ s.idx y = low' (s.cn d) ∧ Reach A (s.cn d) y
    by_cases e : s.cn d = s.cn (s.D - 1)
    · rw [e]
      exact ⟨Nat.le_trans hl2 (h.ls _ (by omega)).1, hl4⟩
    · rw [hl1 _ e]; exact h.ls d hd

end Go.Proofs.Qxb6600486a

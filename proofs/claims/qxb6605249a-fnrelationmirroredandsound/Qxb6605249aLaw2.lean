/-
  THE LAW HOLDS AFTER EVERY DELIVERY; WHAT IT SAYS OF lower, upperOf, in AND relation.
-/
import Derived.Test.Qxb6605249aLaw
import Derived.Test.Qxb6605249aInput
import Derived.Test.Qxb6605249aModelRel
set_option linter.unusedVariables false
set_option linter.unusedSimpArgs false
namespace Go.Proofs.Qxb6605249a

section
variable {n keep L : Nat} {J S m : Nat → Nat} {X Y : Nat → Nat → Nat}

theorem law_start : Law n keep L J S m X Y 0 (g0 n keep) :=
  { dn := fun p hp => by omega, low := fun p hp => by omega, up := fun p hp => by omega, lim := fun p hp => by omega, fg := fun p hp => by omega
    ex := fun _ => ⟨fun _ _ => rfl, fun p hp => by omega⟩ }

theorem lo1_eq {g : GS} {A Q a b : Nat → Nat} (h : ∀ k, k < n → a k = b k) (hg : ∀ t k, k < n → g.first (A t) ≤ Q t → g.L (A t) (Q t) k = g.U (A t) (Q t) k) : ∀ t k, k < n → lo1 g A Q a t k = hi1 g A Q b t k
  | 0, k, hk => h k hk
  | t + 1, k, hk => by
    have ih := lo1_eq h hg t k hk
    rw [lo1, hi1]
    split
    · next h1 => show max _ _ = max _ _
                 rw [ih, hg t k hk h1]
    · exact ih

theorem lh2_kept {g : GS} {A Q a b : Nat → Nat} : ∀ t, (∀ x, x < t → g.first (A x) ≤ Q x) → lh2 g A Q a b t = (a, b)
  | 0, _ => rfl
  | t + 1, h => by
    rw [lh2, if_pos (.inl (h t (by omega))), lh2_kept t (fun x hx => h x (by omega))]

/-- The new message's two rows. -/
theorem rows_law {i : Nat} {g : GS} (hV : Valid n L J S m X Y) (hi : i < L) (hl : Law n keep L J S m X Y i g) (ok : GOk g) (hn : g.n = n) (hcnt : ∀ s, g.cnt s = cntTo J i s) {l3 h3 : Nat → Nat}
    (e1 : l3 = upd (lh2 g (X i) (Y i) (lo1 g (X i) (Y i) (lo0 g (J i) (S i)) (m i)) (hi1 g (X i) (Y i) (hi0 g (J i) (S i)) (m i)) (m i)).1 (J i) (S i))
    (e2 : h3 = upd (lh2 g (X i) (Y i) (lo1 g (X i) (Y i) (lo0 g (J i) (S i)) (m i)) (hi1 g (X i) (Y i) (hi0 g (J i) (S i)) (m i)) (m i)).2 (J i) (S i)) :
    (∀ k, k < n → ∀ q, 1 ≤ q → q ≤ l3 k → q ≤ cntTo J (i + 1) k ∧ Reach (EdgeP L J S m X Y) i (At J L k q)) ∧ Cov (EdgeP L J S m X Y) J S i h3 ∧ (∀ k, k < n → h3 k ≤ cntTo J (i + 1) k) ∧ (L ≤ keep → ∀ k, k < n → l3 k = h3 k) := by
  have g0' := gath0 hV hi hl ok hn hcnt
  have g1 := gath1 hV hi hl g0'.1 (m i) (Nat.le_refl _)
  have g2 := gath2 hV hi hl ok hn hcnt g1.1 (m i) (Nat.le_refl _)
  have hs := hV.s i hi
  have hself := hV.at_self hi
  have hcs := cntTo_succ_self J i
  refine ⟨fun k hk q h1 h2 => ?_, fun r hr => ?_, fun k hk => ?_, fun hkeep k hk => ?_⟩
  · by_cases e : k = J i
    · subst e
      rw [e1, upd_same] at h2
      refine ⟨by omega, ?_⟩
      have := hV.chain' (s := J i) (q := S i) h1 h2 (hV.lt_cnt hi hi)
      rwa [hself] at this
    · rw [e1, upd_ne e] at h2
      have := g2.1.low k hk q h1 h2
      exact ⟨Nat.le_trans this.1 (cntTo_mono J k i (i + 1) (by omega)), this.2⟩
  · by_cases e : J r = J i
    · rw [e2, e, upd_same]
      exact hV.mono hi (hV.reach_le hi hr) e
    · rw [e2, upd_ne e]
      rcases hr.head with rfl | ⟨p, hp, hpr⟩
      · exact absurd rfl e
      · have hcov : Cov (EdgeP L J S m X Y) J S p (lh2 g (X i) (Y i) (lo1 g (X i) (Y i) (lo0 g (J i) (S i)) (m i)) (hi1 g (X i) (Y i) (hi0 g (J i) (S i)) (m i)) (m i)).2 := by
          rcases hp with ⟨h1, rfl⟩ | ⟨k, hk, rfl⟩
          · have := g0'.2 h1
            unfold At at this
            rw [show S i - 1 - 1 = S i - 2 from by omega] at this
            exact (this.mono fun k => hi1_ge g (X i) (Y i) _ k (m i)).mono g2.2.1
          · by_cases hk2 : g.first (X i k) ≤ Y i k
            · exact (g1.2 k hk hk2).mono g2.2.1
            · exact g2.2.2 k hk hk2
        exact hcov r hpr
  · by_cases e : k = J i
    · rw [e2, e, upd_same, hcs, ← hs]; exact Nat.le_refl _
    · rw [e2, upd_ne e]
      exact Nat.le_trans (g2.1.lim k hk) (cntTo_mono J k i (i + 1) (by omega))
  · have hex := hl.ex hkeep
    by_cases e : k = J i
    · rw [e1, e2, e, upd_same, upd_same]
    · rw [e1, e2, upd_ne e, upd_ne e, lh2_kept (m i) (fun x hx => by
        have := hV.x i hi x hx
        rw [hex.1 _ this.1]; exact this.2.1)]
      show lo1 g (X i) (Y i) (lo0 g (J i) (S i)) (m i) k = hi1 g (X i) (Y i) (hi0 g (J i) (S i)) (m i) k
      have key : ∀ t, t ≤ m i → lo1 g (X i) (Y i) (lo0 g (J i) (S i)) t k = hi1 g (X i) (Y i) (hi0 g (J i) (S i)) t k := fun t => by
        induction t with
        | zero =>
          intro _
          show lo0 g (J i) (S i) k = hi0 g (J i) (S i) k
          unfold lo0 hi0
          split
          · next h1 =>
            have a := hV.at_law (Nat.le_of_lt hi) (s := J i) (q := S i - 1) (by omega) (by omega)
            have := hex.2 _ a.1 k hk
            rwa [a.2.1, a.2.2] at this
          · rfl
        | succ t ih =>
          intro ht
          have hx := hV.x i hi t (by omega)
          have a := hV.at_law (Nat.le_of_lt hi) (s := X i t) (q := Y i t) hx.2.1 hx.2.2
          have hk2 : g.first (X i t) ≤ Y i t := by rw [hex.1 _ hx.1]; exact hx.2.1
          rw [lo1, hi1, if_pos hk2, if_pos hk2]
          show max _ _ = max _ _
          have := hex.2 _ a.1 k hk
          rw [a.2.1, a.2.2] at this
          rw [ih (by omega), this]
      exact key (m i) (Nat.le_refl _)

theorem law_step {i : Nat} {g g' : GS} (hV : Valid n L J S m X Y) (hi : i < L) (hl : Law n keep L J S m X Y i g) (ok : GOk g) (hn : g.n = n) (hke : g.keep = keep) (hdel : g.del = i) (hcnt : ∀ s, g.cnt s = cntTo J i s) (h : StepG J S m X Y i g g') :
    Law n keep L J S m X Y (i + 1) g' := by
  obtain ⟨l3, h3, F, x, e1, e2, rfl, ok', hF, hdone⟩ := h
  obtain ⟨r1, r2, r3, r4⟩ := rows_law hV hi hl ok hn hcnt e1 e2
  have hs := hV.s i hi
  have hnew : ∀ p, p < i → ¬ (J p = J i ∧ S p = g.cnt (J i) + 1) := fun p hp h => by
    have := hV.lt_cnt hp (by omega : p < L)
    rw [h.1, h.2, hcnt] at this
    omega
  have hself : J i = J i ∧ S i = g.cnt (J i) + 1 := ⟨rfl, by rw [hcnt]; exact hs⟩
  have F1 : ∀ s, g.first s ≤ F s := hF.f1
  have hdn : ∀ p, p < i + 1 → g.first (J p) ≤ S p → (newG g (J i) l3 h3).dn (J p) (S p) = p + 1 := fun p hp hk => by
    by_cases e : p = i
    · subst e
      show (if J p = J p ∧ S p = g.cnt (J p) + 1 then g.del + 1 else g.dn (J p) (S p)) = p + 1
      rw [if_pos hself, hdel]
    · show (if J p = J i ∧ S p = g.cnt (J i) + 1 then g.del + 1 else g.dn (J p) (S p)) = p + 1
      rw [if_neg (hnew p (by omega))]
      exact hl.dn p (by omega) hk
  have eL : ∀ p, p < i + 1 → (newG g (J i) l3 h3).L (J p) (S p) = if p = i then l3 else g.L (J p) (S p) := fun p hp => by
    by_cases e : p = i
    · subst e
      show (if J p = J p ∧ S p = g.cnt (J p) + 1 then l3 else g.L (J p) (S p)) = _
      rw [if_pos hself, if_pos rfl]
    · show (if J p = J i ∧ S p = g.cnt (J i) + 1 then l3 else g.L (J p) (S p)) = _
      rw [if_neg (hnew p (by omega)), if_neg e]
  have eU : ∀ p, p < i + 1 → (newG g (J i) l3 h3).U (J p) (S p) = if p = i then h3 else g.U (J p) (S p) := fun p hp => by
    by_cases e : p = i
    · subst e
      show (if J p = J p ∧ S p = g.cnt (J p) + 1 then h3 else g.U (J p) (S p)) = _
      rw [if_pos hself, if_pos rfl]
    · show (if J p = J i ∧ S p = g.cnt (J i) + 1 then h3 else g.U (J p) (S p)) = _
      rw [if_neg (hnew p (by omega)), if_neg e]
  exact
    { dn := fun p hp hk => hdn p hp (Nat.le_trans (F1 _) hk)
      low := fun p hp hk k hk2 q h1 h2 => by
        have hk' : g.first (J p) ≤ S p := Nat.le_trans (F1 _) hk
        have h2' : q ≤ (newG g (J i) l3 h3).L (J p) (S p) k := h2
        rw [eL p hp] at h2'
        by_cases e : p = i
        · subst e
          rw [if_pos rfl] at h2'
          exact r1 k hk2 q h1 h2'
        · rw [if_neg e] at h2'
          exact hl.low p (by omega) hk' k hk2 q h1 h2'
      up := fun p hp hk => by
        have hk' : g.first (J p) ≤ S p := Nat.le_trans (F1 _) hk
        show Cov _ J S p ((newG g (J i) l3 h3).U (J p) (S p))
        rw [eU p hp]
        by_cases e : p = i
        · subst e
          rw [if_pos rfl]
          exact r2
        · rw [if_neg e]
          exact hl.up p (by omega) hk'
      lim := fun p hp hk k hk2 => by
        have hk' : g.first (J p) ≤ S p := Nat.le_trans (F1 _) hk
        show (newG g (J i) l3 h3).U (J p) (S p) k ≤ _
        rw [eU p hp]
        by_cases e : p = i
        · subst e
          rw [if_pos rfl]
          exact r3 k hk2
        · rw [if_neg e]
          exact hl.lim p (by omega) hk' k hk2
      fg := fun p hp hk => by
        have hk2 : S p < F (J p) := hk
        have hx3 : g.fgt ≤ x := hF.f3
        show p + 1 ≤ x ∧ keep ≤ (i + 1) - (p + 1)
        by_cases h1 : g.first (J p) ≤ S p
        · have := hF.f2 (J p) (by show J p < g.n; rw [hn]; exact hV.j p (by omega)) (S p) h1 hk2
          rw [hdn p hp h1] at this
          have h2 : g.keep ≤ g.del + 1 - (p + 1) := this.1
          rw [hke, hdel] at h2
          exact ⟨this.2, h2⟩
        · by_cases e : p = i
          · subst e
            exfalso
            apply h1
            by_cases h0 : g.cnt (J p) = 0
            · rw [ok.f3 (J p) (by rw [hn]; exact hV.j p hi) h0, hs]; omega
            · have := ok.f2 (J p) (by rw [hn]; exact hV.j p hi) h0
              rw [hcnt] at this
              omega
          · have := hl.fg p (by omega) (by omega)
            exact ⟨by omega, by omega⟩
      ex := fun hkeep => by
        have hex := hl.ex hkeep
        refine ⟨fun s hs2 => ?_, fun p hp k hk => ?_⟩
        · show F s = 1
          have h1 := F1 s
          rw [hex.1 s hs2] at h1
          by_cases h2 : F s = 1
          · exact h2
          · exfalso
            have hsn : s < g.n := by rw [hn]; exact hs2
            have hc0 : (newG g (J i) l3 h3).cnt s ≠ 0 := fun h0 => by
              have := ok'.f3 s hsn h0
              exact h2 this
            have hcs : cntTo J (i + 1) s ≠ 0 := by
              have e : (newG g (J i) l3 h3).cnt s = cntTo J (i + 1) s := by
                show upd g.cnt (J i) (g.cnt (J i) + 1) s = cntTo J (i + 1) s
                rw [cntTo]
                by_cases e : s = J i
                · subst e; rw [upd_same, if_pos rfl, hcnt]
                · rw [upd_ne e, if_neg (fun e2 => e e2.symm), hcnt]
              rwa [e] at hc0
            have a := hV.at_law (i := i + 1) (by omega) (s := s) (q := 1) (Nat.le_refl _) (by omega)
            have := hF.f2 s hsn 1 (by show g.first s ≤ 1; rw [hex.1 s hs2]; exact Nat.le_refl _) (by omega)
            have hd := hdn _ a.1 (by rw [a.2.1, a.2.2, hex.1 s hs2]; exact Nat.le_refl _)
            rw [a.2.1, a.2.2] at hd
            rw [hd] at this
            have h3 : g.keep ≤ g.del + 1 - (At J L s 1 + 1) := this.1
            rw [hke, hdel] at h3
            omega
        · show (newG g (J i) l3 h3).L (J p) (S p) k = (newG g (J i) l3 h3).U (J p) (S p) k
          rw [eL p hp, eU p hp]
          by_cases e : p = i
          · rw [if_pos e, if_pos e]; exact r4 hkeep k hk
          · rw [if_neg e, if_neg e]; exact hex.2 p (by omega) k hk }

theorem law_built (hV : Valid n L J S m X Y) (hn1 : 1 ≤ n) (hn2 : n ≤ 4096) : ∀ i g, i ≤ L → Built n keep J S m X Y i g → Law n keep L J S m X Y i g
  | 0, g, _, h => by
    have h' : g = g0 n keep := h
    subst h'
    exact law_start
  | i + 1, g', hi, h => by
    obtain ⟨g, hg, hst⟩ := h
    have hb := built_base hg
    exact law_step hV (by omega) (law_built hV hn1 hn2 i g (by omega) hg) (built_ok hn1 hn2 hg) hb.1 hb.2.1 hb.2.2.1 hb.2.2.2 hst

/-- What is kept. -/
theorem Law.kept {g : GS} (hV : Valid n L J S m X Y) (hl : Law n keep L J S m X Y L g) (ok : GOk g) (hn : g.n = n) (hcnt : ∀ s, g.cnt s = cntTo J L s) {p : Nat} (hp : p < L) (h : L - (p + 1) < keep ∨ S p = cntTo J L (J p)) : g.first (J p) ≤ S p := by
  by_cases hk : g.first (J p) ≤ S p
  · exact hk
  · exfalso
    have h1 := hl.fg p hp (by omega)
    rcases h with h | h
    · omega
    · have hs := hV.s p hp
      have := ok.f2 (J p) (by rw [hn]; exact hV.j p hp) (by rw [hcnt]; omega)
      rw [hcnt] at this
      omega

/-- The bounds of a kept message's past. -/
theorem Law.bounds {g : GS} (hV : Valid n L J S m X Y) (hl : Law n keep L J S m X Y L g) {p : Nat} (hp : p < L) (hk : g.first (J p) ≤ S p) {sn : Nat → Bool} (hsn : ∀ i, i < L → (sn i = true ↔ Reach (EdgeP L J S m X Y) p i)) {k : Nat} (hkn : k < n) :
    g.L (J p) (S p) k ≤ pastTo J S sn L k ∧ pastTo J S sn L k ≤ g.U (J p) (S p) k ∧ g.U (J p) (S p) k ≤ cntTo J (p + 1) k := by
  refine ⟨?_, ?_, hl.lim p hp hk k hkn⟩
  · rcases Nat.eq_zero_or_pos (g.L (J p) (S p) k) with h0 | h0
    · rw [h0]; exact Nat.zero_le _
    · have h1 := hl.low p hp hk k hkn _ h0 (Nat.le_refl _)
      have a := hV.at_law (i := L) (Nat.le_refl _) (s := k) (q := g.L (J p) (S p) k) h0 (Nat.le_trans h1.1 (cntTo_mono J k (p + 1) L hp))
      have := pastTo_ge (J := J) (S := S) sn k L _ a.1 ((hsn _ a.1).2 h1.2) a.2.1
      rw [a.2.2] at this
      exact this
  · rcases pastTo_is (J := J) (S := S) sn k L with h0 | ⟨r, h1, h2, h3, h4⟩
    · rw [h0]; exact Nat.zero_le _
    · have := hl.up p hp hk r ((hsn r h1).1 h2)
      rw [h3, h4] at this
      exact this

/-- What 'in' says it knows is true. -/
theorem Law.in_ {g : GS} (hV : Valid n L J S m X Y) (hl : Law n keep L J S m X Y L g) (ok : GOk g) (hn : g.n = n) (hcnt : ∀ s, g.cnt s = cntTo J L s) {x y : Nat} (hx : x < L) (hy : y < L) (hne : ¬ (J x = J y ∧ S x = S y)) :
    ((inF g (J x) (S x) (J y) (S y)).2 = true → ((inF g (J x) (S x) (J y) (S y)).1 = true ↔ Reach (EdgeP L J S m X Y) y x)) ∧
    ((inF g (J x) (S x) (J y) (S y)).2 = false → (inF g (J x) (S x) (J y) (S y)).1 = false ∧ J x ≠ J y) ∧ (L ≤ keep → (inF g (J x) (S x) (J y) (S y)).2 = true) := by
  have hsx := hV.s x hx
  have hsy := hV.s y hy
  have hjx := hV.j x hx
  unfold inF
  by_cases h1 : J x = J y
  · rw [if_pos h1]
    refine ⟨fun _ => ?_, fun h => by simp at h, fun _ => rfl⟩
    show decide (S x < S y) = true ↔ _
    rw [decide_eq_true_eq]
    refine ⟨fun h => ?_, fun h => ?_⟩
    · have := hV.chain' (s := J y) (q := S y) (q' := S x) (by omega) (by omega) (hV.lt_cnt hy hy)
      rw [hV.at_self hy] at this
      rwa [← h1, hV.at_self hx] at this
    · have := hV.mono hy (hV.reach_le hy h) h1
      have : S x ≠ S y := fun e => hne ⟨h1, e⟩
      omega
  · rw [if_neg h1]
    by_cases h2 : g.first (J y) ≤ S y
    · rw [if_pos h2]
      by_cases h3 : S x ≤ g.L (J y) (S y) (J x)
      · rw [if_pos h3]
        refine ⟨fun _ => ⟨fun _ => ?_, fun _ => rfl⟩, fun h => by simp at h, fun _ => rfl⟩
        have := (hl.low y hy h2 (J x) hjx (S x) (by omega) h3).2
        rwa [hV.at_self hx] at this
      · rw [if_neg h3]
        by_cases h4 : g.U (J y) (S y) (J x) < S x
        · rw [if_pos h4]
          refine ⟨fun _ => ⟨fun h => by simp at h, fun h => ?_⟩, fun h => by simp at h, fun _ => rfl⟩
          have := hl.up y hy h2 x h
          omega
        · rw [if_neg h4]
          refine ⟨fun h => by simp at h, fun _ => ⟨rfl, h1⟩, fun hk => ?_⟩
          have := (hl.ex hk).2 y hy (J x) hjx
          omega
    · rw [if_neg h2]
      have hf := hl.fg y hy (by omega)
      have hnk : ¬ L ≤ keep := fun hk => by
        have := (hl.ex hk).1 (J y) (hV.j y hy)
        omega
      by_cases h3 : g.U (J y) (g.first (J y)) (J x) < S x ∨ (g.first (J x) ≤ S x ∧ g.fgt < g.dn (J x) (S x))
      · rw [if_pos h3]
        refine ⟨fun _ => ⟨fun h => by simp at h, fun h => ?_⟩, fun h => by simp at h, fun _ => rfl⟩
        rcases h3 with h3 | ⟨h3, h4⟩
        · have hc0 : g.cnt (J y) ≠ 0 := by rw [hcnt]; have := hV.lt_cnt hy hy; omega
          have hfc := ok.f2 (J y) (by rw [hn]; exact hV.j y hy) hc0
          rw [hcnt] at hfc
          have hf1 := ok.f1 (J y) (by rw [hn]; exact hV.j y hy)
          have a := hV.at_law (i := L) (Nat.le_refl _) (s := J y) (q := g.first (J y)) hf1 hfc
          have hup := hl.up _ a.1 (by rw [a.2.1, a.2.2]; exact Nat.le_refl _)
          rw [a.2.1, a.2.2] at hup
          have hre := hV.chain' (s := J y) (q := g.first (J y)) (q' := S y) (by omega) (by omega) hfc
          rw [hV.at_self hy] at hre
          have := hup x (hre.trans h)
          omega
        · rw [hl.dn x hx h3] at h4
          have := hV.reach_le hy h
          omega
      · rw [if_neg h3]
        exact ⟨fun h => by simp at h, fun _ => ⟨rfl, h1⟩, fun hk => absurd hk hnk⟩

theorem Law.rel {g : GS} (hV : Valid n L J S m X Y) (hl : Law n keep L J S m X Y L g) (ok : GOk g) (hn : g.n = n) (hcnt : ∀ s, g.cnt s = cntTo J L s) {x y : Nat} (hx : x < L) (hy : y < L) :
    (1 ≤ relF g (J x) (S x) (J y) (S y) ∧ relF g (J x) (S x) (J y) (S y) ≤ 5) ∧ (relF g (J x) (S x) (J y) (S y) = 4 ↔ x = y) ∧ (relF g (J x) (S x) (J y) (S y) = 5 → J x ≠ J y ∧ ¬ L ≤ keep) ∧
    (∀ r, MRel (EdgeP L J S m X Y) x y r → relF g (J x) (S x) (J y) (S y) = 5 ∨ relF g (J x) (S x) (J y) (S y) = r) ∧ mirF (relF g (J x) (S x) (J y) (S y)) (relF g (J y) (S y) (J x) (S x)) = true := by
  by_cases he : x = y
  · subst he
    have e : relF g (J x) (S x) (J x) (S x) = 4 := by unfold relF; rw [if_pos ⟨rfl, rfl⟩]
    rw [e]
    refine ⟨by omega, by simp, by simp, fun r hr => .inr ?_, by decide⟩
    rcases hr with ⟨_, h⟩ | ⟨h, _⟩ | ⟨h, _⟩ | ⟨h, _⟩
    · exact h.symm
    · exact absurd rfl h
    · exact absurd rfl h
    · exact absurd rfl h
  · have hne : ¬ (J x = J y ∧ S x = S y) := fun h => he (hV.inj hx hy h.1 h.2)
    have hne2 : ¬ (J y = J x ∧ S y = S x) := fun h => he (hV.inj hx hy h.1.symm h.2.symm)
    obtain ⟨a1, a2, a3⟩ := hl.in_ hV ok hn hcnt hx hy hne
    obtain ⟨b1, b2, b3⟩ := hl.in_ hV ok hn hcnt hy hx hne2
    have hanti : ¬ (Reach (EdgeP L J S m X Y) y x ∧ Reach (EdgeP L J S m X Y) x y) := fun h => by
      have h1 := hV.reach_le hy h.1
      have h2 := hV.reach_le hx h.2
      omega
    unfold relF
    rw [if_neg hne, if_neg hne2]
    cases ha : inF g (J x) (S x) (J y) (S y) with
    | mk i1 k1 =>
      cases hb : inF g (J y) (S y) (J x) (S x) with
      | mk i2 k2 =>
        rw [ha] at a1 a2 a3
        rw [hb] at b1 b2 b3
        unfold MRel
        cases i1 <;> cases k1 <;> cases i2 <;> cases k2 <;> simp_all [mirF] <;> (try omega) <;> (try (intro r hr; rcases hr with hr | hr <;> simp_all)) <;> (try decide)

end
end Go.Proofs.Qxb6605249a

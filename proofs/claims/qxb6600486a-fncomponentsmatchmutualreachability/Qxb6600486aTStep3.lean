/-
  THE TOP IS LEFT WITH ITS CLASS: what is known then.
-/
import Derived.Test.Qxb6600486aSorts
set_option linter.unusedVariables false
set_option linter.unusedSimpArgs false
namespace Go.Proofs.Qxb6600486a
open Go.RowKit

variable {w : World} {n m pb : Nat} {A : Nat → Nat → Prop} {F G : Nat → Nat} {wr wr' : World} {s s2 : TS} {N N2 : TN} {d : Nat}

theorem TI.later (h : TI w n m pb A F G wr s N) (hb : Below wr.heap.size wr wr') : TI w n m pb A F G wr' s N :=
  { tm := h.tm.later hb, inv := h.inv, tf := h.tf, tc := h.tc }

theorem ons_conv (h : TInv A n F G s NoEx) {k j : Nat} (hk : k < s.S) (hj : j = s.S - k) {on' : Nat → Bool} (ho : ∀ x, on' x = true ↔ s.on x = true ∧ ∀ i, i < j → s.st (s.S - 1 - i) ≠ x) :
    ∀ x, on' x = true ↔ s.on x = true ∧ s.idx x < s.idx (s.st k) := fun x => by
  rw [ho]
  constructor
  · rintro ⟨h1, h2⟩
    refine ⟨h1, ?_⟩
    obtain ⟨t, ht, rfl⟩ := (h.onS x).1 h1
    rcases Nat.lt_or_ge t k with h3 | h3
    · exact h.inc t k h3 hk
    · exact absurd (by rw [show s.S - 1 - (s.S - 1 - t) = t from by omega]) (h2 (s.S - 1 - t) (by omega))
  · rintro ⟨h1, h2⟩
    refine ⟨h1, fun i hi e => ?_⟩
    rw [← e] at h2
    rcases Nat.lt_or_ge k (s.S - 1 - i) with h3 | h3
    · have := h.inc k _ h3 (by omega); omega
    · rw [show s.S - 1 - i = k from by omega] at h2; omega

theorem cb_done1 (h : TI w n m pb A F G wr s N) (hC : CSR n m A F G) (hD : s.D = d + 1) (hc : ¬ s.cx d < F (s.cn d + 1)) (hl : s.low (s.cn d) = s.idx (s.cn d)) {k : Nat} (hk : k < s.S) (hkv : s.st k = s.cn d) {wB w5 : World} {kv2 : Value} {sb so sc j : Nat} {on' : Nat → Bool} {cv : Value}
    (H : CB w n pb wB { s with D := d, low := lowUp s d } { N with kv := kv2 } sb so sc w5 j on' cv) (hj : j = s.S - k) (h1 : j = 1) :
    ∃ s' N', N'.ov = N.ov ∧ TI w n m pb A F G w5 s' N' ∧ sumTo s'.r n < sumTo s.r n ∧ ∀ u, s.idx u ≠ 0 → s'.idx u ≠ 0 := by
  have hon := ons_conv h.inv hk hj H.ons
  rw [hkv] at hon
  have ht := H.tm
  have e1 : s.S - j = k := by omega
  have ht' : TM w n pb w5 { s with D := d, low := lowUp s d, S := s.S - j, on := on' } { N with kv := kv2, sv := .slice (some ⟨sb, so, none⟩) (s.S - j) sc } := ht
  rw [e1] at ht'
  obtain ⟨s', r1, r2, r3⟩ := ti_popB1 h hC hD hc hl hk hkv (by omega) on' hon (sv' := .slice (some ⟨sb, so, none⟩) k sc) (kv' := kv2) ht'
  exact ⟨s', { N with sv := .slice (some ⟨sb, so, none⟩) k sc, kv := kv2 }, rfl, r1, r2, r3⟩

theorem cb_inj (h : TInv A n F G s NoEx) {j : Nat} (hj : j ≤ s.S) : ∀ a b, a < b → b < j → s.st (s.S - 1 - a) ≠ s.st (s.S - 1 - b) := fun a b hab hb e => by
  have := h.inc (s.S - 1 - b) (s.S - 1 - a) (by omega) (by omega)
  rw [e] at this
  omega

/-- The sort has run; the lists' memory is as it was. -/
theorem cb_sorted {wB w5 w6 : World} {sb so sc j b o cap : Nat} {on' : Nat → Bool} (H : CB w n pb wB s2 N2 sb so sc w5 j on' (.slice (some ⟨b, o, none⟩) j cap)) (hg : w5.grownBy w6 (some b)) :
    TM w n pb w6 { s2 with S := s2.S - j, on := on' } { N2 with sv := .slice (some ⟨sb, so, none⟩) (s2.S - j) sc } ∧ w.heap.size + 10 ≤ b ∧ b < w6.heap.size ∧ ¬ ({ N2 with sv := .slice (some ⟨sb, so, none⟩) (s2.S - j) sc } : TN).owns b := by
  have hob := H.ob b rfl
  have hB10 : w.heap.size + 10 ≤ wB.heap.size := by
    have := (H.tm.lists.hi sb (.inl rfl)).1
    have := H.hiB sb (.inl H.own)
    omega
  have hs := hg.size
  have h5 := H.sz
  refine ⟨H.tm.keep hs (fun x h1 h2 => hg.block x ?_ ?_) (H.tm.bel.grown hg (by omega) (fun k e => by cases e; omega)), by omega, by omega, fun ho => ?_⟩
  · rcases h2 with h2 | h2
    · omega
    · have := H.hiB x (H.owns h2); omega
  · intro e
    cases e
    rcases h2 with h2 | h2
    · omega
    · have := H.hiB b (H.owns h2); omega
  · have := H.hiB b (H.owns ho)
    omega

theorem cb_done2 (h : TI w n m pb A F G wr s N) (hC : CSR n m A F G) (hD : s.D = d + 1) (hc : ¬ s.cx d < F (s.cn d + 1)) (hl : s.low (s.cn d) = s.idx (s.cn d)) {k : Nat} (hk : k < s.S) (hkv : s.st k = s.cn d) {wB w5 w6 : World} {kv2 : Value} {sb so sc j b o cap : Nat} {on' : Nat → Bool}
    (H : CB w n pb wB { s with D := d, low := lowUp s d } { N with kv := kv2 } sb so sc w5 j on' (.slice (some ⟨b, o, none⟩) j cap)) (hj : j = s.S - k) (h1 : 1 < j) {g : Nat → Nat}
    (hseg : Seg w6 b o j (fun i => iv (g i))) (hinc : ∀ x y, x < y → y < j → g x < g y) (hmem : ∀ x, (∃ i, i < j ∧ g i = x) ↔ ∃ i, i < j ∧ s.st (s.S - 1 - i) = x) (hg : w5.grownBy w6 (some b))
    {w7 : World} {b' o' cap' : Nat}
    (hA : App w7 22 b' o' (N.K + 1) cap' (fun k => if k < N.K then (fun c => Value.slice (some ⟨N.cb c, N.co c, none⟩) (N.ln c) (N.cc c)) k else [Value.slice (some ⟨b, o, none⟩) j cap].getD (k - N.K) undef))
    (hown : N.ov.ownBlock = some b' ∨ b' = (w6.alloc (.cells #[.slice (some ⟨b, o, none⟩) j cap] 22)).heap.size)
    (hg7 : (w6.alloc (.cells #[.slice (some ⟨b, o, none⟩) j cap] 22)).grownBy w7 N.ov.ownBlock) :
    ∃ s' N', N'.ov = .slice (some ⟨b', o', none⟩) (N.K + 1) cap' ∧ TI w n m pb A F G w7 s' N' ∧ sumTo s'.r n < sumTo s.r n ∧ ∀ u, s.idx u ≠ 0 → s'.idx u ≠ 0 := by
  have hon := ons_conv h.inv hk hj H.ons
  rw [hkv] at hon
  obtain ⟨t1, t2, t3, t4⟩ := cb_sorted H hg
  have ht := tm_pushO t1 hseg t2 t3 t4 hA hown hg7
  have e1 : s.S - j = k := by omega
  have ht' : TM w n pb w7 { s with D := d, low := lowUp s d, S := s.S - j, on := on' } { N with sv := .slice (some ⟨sb, so, none⟩) (s.S - j) sc, kv := kv2, ov := .slice (some ⟨b', o', none⟩) (N.K + 1) cap', K := N.K + 1, cb := upd N.cb N.K b, co := upd N.co N.K o, cc := upd N.cc N.K cap, ln := upd N.ln N.K j, C := upd N.C N.K g } := ht
  rw [e1] at ht'
  have hf : ∀ x, (∃ i, i < j ∧ g i = x) ↔ ∃ i, k ≤ i ∧ i < s.S ∧ s.st i = x := fun x => by
    rw [hmem]
    constructor
    · rintro ⟨i, hi, e⟩; exact ⟨s.S - 1 - i, by omega, by omega, e⟩
    · rintro ⟨i, h3, h4, e⟩; exact ⟨s.S - 1 - i, by omega, by rw [show s.S - 1 - (s.S - 1 - i) = i from by omega]; exact e⟩
  have hgn : ∀ i, i < j → g i < n := fun i hi => by
    obtain ⟨t, _, h4, e⟩ := (hf (g i)).1 ⟨i, hi, rfl⟩
    rw [← e]; exact (h.inv.stn t h4).1
  have hge : ∀ i, i < j → i ≤ g i := fun i => by
    induction i with
    | zero => intro _; exact Nat.zero_le _
    | succ i ih =>
      intro hi
      have := ih (by omega)
      have := hinc i (i + 1) (by omega) hi
      omega
  have hjn : j ≤ n := by
    have := hge (j - 1) (by omega)
    have := hgn (j - 1) (by omega)
    omega
  obtain ⟨s', r1, r2, r3⟩ := ti_popB2 h hC hD hc hl hk hkv on' hon h1 hjn hinc hf ht'
  exact ⟨s', _, rfl, r1, r2, r3⟩

end Go.Proofs.Qxb6600486a

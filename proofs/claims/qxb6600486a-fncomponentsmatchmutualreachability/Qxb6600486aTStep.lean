/-
  THE SEARCH's MEMORY AND ITS LAW TOGETHER; how the steps keep both.
-/
import Derived.Test.Qxb6600486aVisit
set_option linter.unusedVariables false
set_option linter.unusedSimpArgs false
namespace Go.Proofs.Qxb6600486a
open Go.RowKit

def N0 : TN := { sv := .slice none 0 0, kv := .slice none 0 0, ov := .slice none 0 0, K := 0, cb := fun _ => 0, co := fun _ => 0, cc := fun _ => 0, ln := fun _ => 0, C := fun _ _ => 0 }

theorem rowIs_one (w : World) (x : Value) (t : TypeId) : (w.alloc (.cells #[x] t)).rowIs w.heap.size t 1 (fun _ => x) :=
  World.rowIs_alloc w #[x] t (fun _ => x) (fun i hi => by
    have : i = 0 := by simpa using hi
    subst this; rfl)

theorem tm_start (w : World) (n pb : Nat) (r : Nat → Nat) (w0 : World)
    (h0 : w0 = ((((((((((w.alloc (.cells #[.pointer (some ⟨pb, 0, none⟩)] 45)).alloc (.cells (madeCells #[.int .i64 0] n) 3)).alloc (.cells #[.slice (some ⟨w.heap.size + 1, 0, none⟩) n n] 22)).alloc (.cells (madeCells #[.int .i64 0] n) 3)).alloc (.cells #[.slice (some ⟨w.heap.size + 3, 0, none⟩) n n] 22)).alloc (.cells (madeCells #[.bool false] n) 4)).alloc (.cells #[.slice (some ⟨w.heap.size + 5, 0, none⟩) n n] 30)).alloc (.cells #[.slice none 0 0] 22)).alloc (.cells #[.slice none 0 0] 51)).alloc (.cells #[.int .i64 0] 3))) :
    TM w n pb w0 (TS.start r) N0 := by
  obtain ⟨w1, e1⟩ : ∃ u, u = w.alloc (.cells #[.pointer (some ⟨pb, 0, none⟩)] 45) := ⟨_, rfl⟩
  rw [← e1] at h0
  obtain ⟨w2, e2⟩ : ∃ u, u = w1.alloc (.cells (madeCells #[.int .i64 0] n) 3) := ⟨_, rfl⟩
  rw [← e2] at h0
  obtain ⟨w3, e3⟩ : ∃ u, u = w2.alloc (.cells #[.slice (some ⟨w.heap.size + 1, 0, none⟩) n n] 22) := ⟨_, rfl⟩
  rw [← e3] at h0
  obtain ⟨w4, e4⟩ : ∃ u, u = w3.alloc (.cells (madeCells #[.int .i64 0] n) 3) := ⟨_, rfl⟩
  rw [← e4] at h0
  obtain ⟨w5, e5⟩ : ∃ u, u = w4.alloc (.cells #[.slice (some ⟨w.heap.size + 3, 0, none⟩) n n] 22) := ⟨_, rfl⟩
  rw [← e5] at h0
  obtain ⟨w6, e6⟩ : ∃ u, u = w5.alloc (.cells (madeCells #[.bool false] n) 4) := ⟨_, rfl⟩
  rw [← e6] at h0
  obtain ⟨w7, e7⟩ : ∃ u, u = w6.alloc (.cells #[.slice (some ⟨w.heap.size + 5, 0, none⟩) n n] 30) := ⟨_, rfl⟩
  rw [← e7] at h0
  obtain ⟨w8, e8⟩ : ∃ u, u = w7.alloc (.cells #[.slice none 0 0] 22) := ⟨_, rfl⟩
  rw [← e8] at h0
  obtain ⟨w9, e9⟩ : ∃ u, u = w8.alloc (.cells #[.slice none 0 0] 51) := ⟨_, rfl⟩
  rw [← e9] at h0
  have s1 : w1.heap.size = w.heap.size + 1 := by rw [e1]; simp
  have s2 : w2.heap.size = w.heap.size + 2 := by rw [e2]; simp [s1]
  have s3 : w3.heap.size = w.heap.size + 3 := by rw [e3]; simp [s2]
  have s4 : w4.heap.size = w.heap.size + 4 := by rw [e4]; simp [s3]
  have s5 : w5.heap.size = w.heap.size + 5 := by rw [e5]; simp [s4]
  have s6 : w6.heap.size = w.heap.size + 6 := by rw [e6]; simp [s5]
  have s7 : w7.heap.size = w.heap.size + 7 := by rw [e7]; simp [s6]
  have s8 : w8.heap.size = w.heap.size + 8 := by rw [e8]; simp [s7]
  have s9 : w9.heap.size = w.heap.size + 9 := by rw [e9]; simp [s8]
  have r0 : w1.rowIs w.heap.size 45 1 (fun _ => .pointer (some ⟨pb, 0, none⟩)) := by rw [e1]; exact rowIs_one _ _ _
  have r1 : w2.rowIs (w.heap.size + 1) 3 n (fun _ => .int .i64 0) := by rw [e2, ← s1]; exact World.rowIs_made _ _ _ _
  have r2 : w3.rowIs (w.heap.size + 2) 22 1 (fun _ => .slice (some ⟨w.heap.size + 1, 0, none⟩) n n) := by rw [e3, ← s2]; exact rowIs_one _ _ _
  have r3 : w4.rowIs (w.heap.size + 3) 3 n (fun _ => .int .i64 0) := by rw [e4, ← s3]; exact World.rowIs_made _ _ _ _
  have r4 : w5.rowIs (w.heap.size + 4) 22 1 (fun _ => .slice (some ⟨w.heap.size + 3, 0, none⟩) n n) := by rw [e5, ← s4]; exact rowIs_one _ _ _
  have r5 : w6.rowIs (w.heap.size + 5) 4 n (fun _ => .bool false) := by rw [e6, ← s5]; exact World.rowIs_made _ _ _ _
  have r6 : w7.rowIs (w.heap.size + 6) 30 1 (fun _ => .slice (some ⟨w.heap.size + 5, 0, none⟩) n n) := by rw [e7, ← s6]; exact rowIs_one _ _ _
  have r7 : w8.rowIs (w.heap.size + 7) 22 1 (fun _ => .slice none 0 0) := by rw [e8, ← s7]; exact rowIs_one _ _ _
  have r8 : w9.rowIs (w.heap.size + 8) 51 1 (fun _ => .slice none 0 0) := by rw [e9, ← s8]; exact rowIs_one _ _ _
  have r9 : w0.rowIs (w.heap.size + 9) 3 1 (fun _ => .int .i64 0) := by rw [h0, ← s9]; exact rowIs_one _ _ _
  have bel : Below w.heap.size w w0 := by
    have b1 : Below w.heap.size w w1 := by rw [e1]; exact (Below.refl _ _).alloc (Nat.le_refl _) _
    have b2 : Below w.heap.size w w2 := by rw [e2]; exact b1.alloc (by omega) _
    have b3 : Below w.heap.size w w3 := by rw [e3]; exact b2.alloc (by omega) _
    have b4 : Below w.heap.size w w4 := by rw [e4]; exact b3.alloc (by omega) _
    have b5 : Below w.heap.size w w5 := by rw [e5]; exact b4.alloc (by omega) _
    have b6 : Below w.heap.size w w6 := by rw [e6]; exact b5.alloc (by omega) _
    have b7 : Below w.heap.size w w7 := by rw [e7]; exact b6.alloc (by omega) _
    have b8 : Below w.heap.size w w8 := by rw [e8]; exact b7.alloc (by omega) _
    have b9 : Below w.heap.size w w9 := by rw [e9]; exact b8.alloc (by omega) _
    rw [h0]; exact b9.alloc (by omega) _
  refine { rows := ?_, lists := ?_, bel := bel }
  · rw [e1] at r0
    intro k hk
    match k, hk with
    | 0, _ =>
      rw [← e1] at r0
      rw [h0, e9, e8, e7, e6, e5, e4, e3, e2]
      exact ((((((((r0.alloc _).alloc _).alloc _).alloc _).alloc _).alloc _).alloc _).alloc _).alloc _
    | 1, _ => rw [h0, e9, e8, e7, e6, e5, e4, e3]; exact (((((((r1.alloc _).alloc _).alloc _).alloc _).alloc _).alloc _).alloc _).alloc _
    | 2, _ => rw [h0, e9, e8, e7, e6, e5, e4]; exact ((((((r2.alloc _).alloc _).alloc _).alloc _).alloc _).alloc _).alloc _
    | 3, _ => rw [h0, e9, e8, e7, e6, e5]; exact (((((r3.alloc _).alloc _).alloc _).alloc _).alloc _).alloc _
    | 4, _ => rw [h0, e9, e8, e7, e6]; exact ((((r4.alloc _).alloc _).alloc _).alloc _).alloc _
    | 5, _ => rw [h0, e9, e8, e7]; exact (((r5.alloc _).alloc _).alloc _).alloc _
    | 6, _ => rw [h0, e9, e8]; exact ((r6.alloc _).alloc _).alloc _
    | 7, _ => rw [h0, e9]; exact (r7.alloc _).alloc _
    | 8, _ => rw [h0]; exact r8.alloc _
    | 9, _ => exact r9
  · exact
      { st := .inl ⟨rfl, rfl⟩, ks := .inl ⟨rfl, rfl⟩, out := .inl ⟨rfl, rfl⟩, cls := fun c hc => absurd hc (Nat.not_lt_zero _)
        hi := fun b hb => by
          rcases hb with e | e | e | ⟨c, hc, _⟩
          · cases e
          · cases e
          · cases e
          · exact absurd hc (Nat.not_lt_zero _)
        d1 := fun b e => (by cases e), d2 := fun b e => (by cases e), d3 := fun b e => (by cases e) }

/-- All that is known between two steps. -/
structure TI (w : World) (n m pb : Nat) (A : Nat → Nat → Prop) (F G : Nat → Nat) (wr : World) (s : TS) (N : TN) : Prop where
  tm : TM w n pb wr s N
  inv : TInv A n F G s NoEx
  tf : TF n F (m + 2 * n) N.K s
  tc : TC A n s.dn N.K N.ln N.C

variable {w : World} {n m pb : Nat} {A : Nat → Nat → Prop} {F G : Nat → Nat} {wr wr' : World} {s s' : TS} {N N' : TN}

theorem TI.bnd (h : TI w n m pb A F G wr s N) (hn : n ≤ 4096) (hm : m ≤ 4096) : s.rch ≤ 20000 ∧ s.S ≤ 20000 ∧ s.D ≤ 20000 ∧ N.K ≤ 20000 := by
  have h1 := h.tf.tot
  have h2 := h.inv.S_le
  have h3 := h.inv.D_le
  omega

/-- A root is visited. -/
theorem ti_root (h : TI w n m pb A F G wr s N) (hC : CSR n m A F G) (hD : s.D = 0) {v : Nat} (hv : v < n) (h0 : s.idx v = 0) {sv' kv' : Value} (ht : TM w n pb wr' (s.visit F v) { N with sv := sv', kv := kv' }) :
    TI w n m pb A F G wr' (s.visit F v) { N with sv := sv', kv := kv' } :=
  { tm := ht
    inv := h.inv.visit v hv (hC.mono v hv) h0 (fun y hy => hy.elim) (fun h => by omega)
    tf := (h.tf.visit h.inv hv h0).1
    tc := h.tc.congr (h.inv.dn_visit h0) }

theorem visit_seen (s : TS) (F : Nat → Nat) (v u : Nat) (h : s.idx u ≠ 0 ∨ u = v) : (s.visit F v).idx u ≠ 0 := by
  show upd s.idx v (s.rch + 1) u ≠ 0
  by_cases e : u = v
  · rw [e, upd_same]; omega
  · rw [upd_ne e]
    rcases h with h | h
    · exact h
    · exact absurd h e

section
variable {d : Nat}

/-- The edge leads to a node that was not reached yet. -/
theorem ti_edge_new (h : TI w n m pb A F G wr s N) (hC : CSR n m A F G) (hD : s.D = d + 1) (hc : s.cx d < F (s.cn d + 1)) (h0 : s.idx (G (s.cx d)) = 0) {sv' kv' : Value}
    (ht : TM w n pb wr' (({ s with cx := upd s.cx d (s.cx d + 1) } : TS).visit F (G (s.cx d))) { N with sv := sv', kv := kv' }) :
    ∃ s', TI w n m pb A F G wr' s' { N with sv := sv', kv := kv' } ∧ sumTo s'.r n < sumTo s.r n ∧ ∀ u, s.idx u ≠ 0 → s'.idx u ≠ 0 := by
  have e1 : s.D - 1 = d := by omega
  have hv := h.inv.on_idx (h.inv.cnS d (by omega))
  have hx := h.inv.cxr d (by omega)
  have hsn := hC.snd (s.cn d) hv.2 (s.cx d) hx.1 hc
  have hc' : s.cx (s.D - 1) < F (s.cn (s.D - 1) + 1) := by rw [e1]; exact hc
  have i1 : TInv A n F G (s.adv s.low) (fun y => y = G (s.cx d)) := by
    refine h.inv.adv (ex := fun y => y = G (s.cx d)) (by omega) ?_ hc' s.low (fun _ _ => rfl) (Nat.le_refl _) ?_ ?_ ?_
    · rw [e1]; exact fun e h1 h2 => (hC.snd (s.cn d) hv.2 e h1 h2).2
    · rw [e1]; intro ho; exact absurd h0 (h.inv.on_idx ho).1
    · rw [e1]; exact (h.inv.ls d (by omega)).2
    · rw [e1]; exact .inr rfl
  have f1 := h.tf.adv h.inv (by omega) hc' s.low
  have hi : (s.adv s.low).idx (G (s.cx d)) = 0 := h0
  have i2 := i1.visit (G (s.cx d)) hsn.1 (hC.mono _ hsn.1) hi (fun y hy => hy) (fun _ => by
    show A (s.cn (s.D - 1)) _
    rw [e1]; exact hsn.2)
  have f2 := f1.1.visit i1 hsn.1 hi
  refine ⟨(s.adv s.low).visit F (G (s.cx d)), { tm := ?_, inv := i2, tf := f2.1, tc := ?_ }, by omega, fun u hu => visit_seen _ _ _ _ (.inl hu)⟩
  · have := ht.setr ((s.adv s.low).visit F (G (s.cx d))).r
    have e2 : (s.adv s.low).visit F (G (s.cx d)) = { ({ s with cx := upd s.cx d (s.cx d + 1) } : TS).visit F (G (s.cx d)) with r := ((s.adv s.low).visit F (G (s.cx d))).r } := by
      unfold TS.adv TS.visit
      rw [e1]
    rw [e2]
    exact this
  · exact h.tc.congr (i1.dn_visit hi)

/-- .. to one that was: low' is the new low. -/
theorem ti_edge_old (h : TI w n m pb A F G wr s N) (hC : CSR n m A F G) (hD : s.D = d + 1) (hc : s.cx d < F (s.cn d + 1)) (h0 : s.idx (G (s.cx d)) ≠ 0) (low' : Nat → Nat)
    (hl : (s.on (G (s.cx d)) = false ∧ low' = s.low) ∨ (s.on (G (s.cx d)) = true ∧ low' = upd s.low (s.cn d) (min (s.low (s.cn d)) (s.idx (G (s.cx d))))))
    (ht : TM w n pb wr' { s with cx := upd s.cx d (s.cx d + 1), low := low' } N) :
    ∃ s', TI w n m pb A F G wr' s' N ∧ sumTo s'.r n < sumTo s.r n ∧ ∀ u, s.idx u ≠ 0 → s'.idx u ≠ 0 := by
  have e1 : s.D - 1 = d := by omega
  have hv := h.inv.on_idx (h.inv.cnS d (by omega))
  have hx := h.inv.cxr d (by omega)
  have hsn := hC.snd (s.cn d) hv.2 (s.cx d) hx.1 hc
  have hc' : s.cx (s.D - 1) < F (s.cn (s.D - 1) + 1) := by rw [e1]; exact hc
  have hls := h.inv.ls d (by omega)
  have i1 : TInv A n F G (s.adv low') NoEx := by
    refine h.inv.adv (by omega) ?_ hc' low' ?_ ?_ ?_ ?_ ?_
    · rw [e1]; exact fun e h1 h2 => (hC.snd (s.cn d) hv.2 e h1 h2).2
    · rw [e1]; intro x hx
      rcases hl with ⟨_, e⟩ | ⟨_, e⟩
      · rw [e]
      · rw [e, upd_ne hx]
    · rw [e1]
      rcases hl with ⟨_, e⟩ | ⟨_, e⟩
      · rw [e]; exact Nat.le_refl _
      · rw [e, upd_same]; omega
    · rw [e1]; intro ho
      rcases hl with ⟨h2, e⟩ | ⟨_, e⟩
      · rw [ho] at h2; cases h2
      · rw [e, upd_same]; omega
    · rw [e1]
      rcases hl with ⟨h2, e⟩ | ⟨h2, e⟩
      · rw [e]; exact hls.2
      · rw [e, upd_same]
        rcases Nat.le_total (s.low (s.cn d)) (s.idx (G (s.cx d))) with h3 | h3
        · obtain ⟨y, y1, y2, y3⟩ := hls.2
          exact ⟨y, y1, by rw [y2]; omega, y3⟩
        · exact ⟨_, h2, by omega, (Reach.refl _).step hsn.2⟩
    · rw [e1]; exact .inl h0
  have f1 := h.tf.adv h.inv (by omega) hc' low'
  refine ⟨s.adv low', { tm := ?_, inv := i1, tf := f1.1, tc := h.tc }, by omega, fun u hu => hu⟩
  have := ht.setr (s.adv low').r
  have e2 : s.adv low' = { ({ s with cx := upd s.cx d (s.cx d + 1), low := low' } : TS) with r := (s.adv low').r } := by
    unfold TS.adv
    rw [e1]
  rw [e2]
  exact this

/-- The low's of the frames when the top is left. -/
def lowUp (s : TS) (d : Nat) : Nat → Nat := if d = 0 then s.low else upd s.low (s.cn (d - 1)) (min (s.low (s.cn (d - 1))) (s.low (s.cn d)))

theorem lowUp_laws (h : TInv A n F G s NoEx) (hD : s.D = d + 1) : (∀ x, x + 2 < s.D → lowUp s d (s.cn x) = s.low (s.cn x)) ∧ (2 ≤ s.D → lowUp s d (s.cn (s.D - 2)) = min (s.low (s.cn (s.D - 2))) (s.low (s.cn (s.D - 1)))) ∧ lowUp s d (s.cn d) = s.low (s.cn d) := by
  unfold lowUp
  refine ⟨fun x hx => ?_, fun h2 => ?_, ?_⟩
  · rw [if_neg (by omega), upd_ne (fun e => by have := h.cn_inj (by omega) (by omega) e; omega)]
  · rw [if_neg (by omega), show s.D - 2 = d - 1 from by omega, show s.D - 1 = d from by omega, upd_same]
  · by_cases e : d = 0
    · rw [if_pos e]
    · rw [if_neg e, upd_ne (fun e' => by have := h.cn_inj (by omega) (by omega) e'; omega)]

/-- The top is left; its class is not whole. -/
theorem ti_popA (h : TI w n m pb A F G wr s N) (hC : CSR n m A F G) (hD : s.D = d + 1) (hc : ¬ s.cx d < F (s.cn d + 1)) (hl : s.low (s.cn d) ≠ s.idx (s.cn d)) {kv' : Value} (ht : TM w n pb wr' { s with D := d, low := lowUp s d } { N with kv := kv' }) :
    ∃ s', TI w n m pb A F G wr' s' { N with kv := kv' } ∧ sumTo s'.r n < sumTo s.r n ∧ ∀ u, s.idx u ≠ 0 → s'.idx u ≠ 0 := by
  have e1 : s.D - 1 = d := by omega
  have hv := h.inv.on_idx (h.inv.cnS d (by omega))
  have hL := lowUp_laws h.inv hD
  have hc' : ¬ s.cx (s.D - 1) < F (s.cn (s.D - 1) + 1) := by rw [e1]; exact hc
  have hcm : ∀ y, A (s.cn (s.D - 1)) y → ∃ e, F (s.cn (s.D - 1)) ≤ e ∧ e < F (s.cn (s.D - 1) + 1) ∧ G e = y := by rw [e1]; exact hC.cmp _ hv.2
  have i1 := h.inv.popA (by omega) hcm hc' (by rw [e1]; exact hl) (lowUp s d) hL.1 hL.2.1
  have f1 := h.tf.pop h.inv (by omega) hc' (s.popA (lowUp s d)) rfl rfl rfl rfl rfl rfl
  refine ⟨s.popA (lowUp s d), { tm := ?_, inv := i1, tf := f1.1.less (Nat.le_succ _), tc := h.tc }, by omega, fun u hu => hu⟩
  have := ht.setr (s.popA (lowUp s d)).r
  have e2 : s.popA (lowUp s d) = { ({ s with D := d, low := lowUp s d } : TS) with r := (s.popA (lowUp s d)).r } := by
    unfold TS.popA
    rw [e1]
  rw [e2]
  exact this

/-- The top is left with its class, of one node. -/
theorem ti_popB1 (h : TI w n m pb A F G wr s N) (hC : CSR n m A F G) (hD : s.D = d + 1) (hc : ¬ s.cx d < F (s.cn d + 1)) (hl : s.low (s.cn d) = s.idx (s.cn d)) {k : Nat} (hk : k < s.S) (hkv : s.st k = s.cn d) (hk1 : s.S = k + 1) (on' : Nat → Bool) (hon : ∀ x, on' x = true ↔ s.on x = true ∧ s.idx x < s.idx (s.cn d)) {sv' kv' : Value}
    (ht : TM w n pb wr' { s with D := d, low := lowUp s d, S := k, on := on' } { N with sv := sv', kv := kv' }) :
    ∃ s', TI w n m pb A F G wr' s' { N with sv := sv', kv := kv' } ∧ sumTo s'.r n < sumTo s.r n ∧ ∀ u, s.idx u ≠ 0 → s'.idx u ≠ 0 := by
  have e1 : s.D - 1 = d := by omega
  have hv := h.inv.on_idx (h.inv.cnS d (by omega))
  have hL := lowUp_laws h.inv hD
  have hc' : ¬ s.cx (s.D - 1) < F (s.cn (s.D - 1) + 1) := by rw [e1]; exact hc
  have hcm : ∀ y, A (s.cn (s.D - 1)) y → ∃ e, F (s.cn (s.D - 1)) ≤ e ∧ e < F (s.cn (s.D - 1) + 1) ∧ G e = y := by rw [e1]; exact hC.cmp _ hv.2
  have hl' : s.low (s.cn (s.D - 1)) = s.idx (s.cn (s.D - 1)) := by rw [e1]; exact hl
  have hon' : ∀ x, on' x = true ↔ s.on x = true ∧ s.idx x < s.idx (s.cn (s.D - 1)) := by rw [e1]; exact hon
  have i1 := h.inv.popB (by omega) hcm hc' hl' (lowUp s d) hL.1 hL.2.1 k hk (by rw [e1]; exact hkv) on' hon'
  have f1 := h.tf.pop h.inv (by omega) hc' (s.popB (lowUp s d) k on') rfl rfl rfl rfl rfl rfl
  have hcl := h.inv.cls (by omega) hcm hc' hl'
  have hdn := h.inv.dn_popB (by omega) hcm hc' hl' (lowUp s d) k on' hon'
  rw [e1] at hcl hdn
  refine ⟨s.popB (lowUp s d) k on', { tm := ?_, inv := i1, tf := f1.1.less (Nat.le_succ _), tc := h.tc.single (v := s.cn d) (fun y hy => ?_) hdn }, by omega, fun u hu => hu⟩
  · have := ht.setr (s.popB (lowUp s d) k on').r
    have e2 : s.popB (lowUp s d) k on' = { ({ s with D := d, low := lowUp s d, S := k, on := on' } : TS) with r := (s.popB (lowUp s d) k on').r } := by
      unfold TS.popB
      rw [e1]
    rw [e2]
    exact this
  · obtain ⟨h1, h2⟩ := (hcl y).1 hy
    obtain ⟨i, hi, rfl⟩ := (h.inv.onS y).1 h1
    have hik : i = k := by
      rcases Nat.lt_or_ge i k with h3 | h3
      · have := h.inv.inc i k h3 hk; rw [hkv] at this; omega
      · omega
    rw [hik, hkv]

/-- .. of more nodes: it is listed; f: its nodes in increasing order. -/
theorem ti_popB2 (h : TI w n m pb A F G wr s N) (hC : CSR n m A F G) (hD : s.D = d + 1) (hc : ¬ s.cx d < F (s.cn d + 1)) (hl : s.low (s.cn d) = s.idx (s.cn d)) {k : Nat} (hk : k < s.S) (hkv : s.st k = s.cn d) (on' : Nat → Bool) (hon : ∀ x, on' x = true ↔ s.on x = true ∧ s.idx x < s.idx (s.cn d))
    {len : Nat} {f : Nat → Nat} (h1 : 1 < len) (hlen : len ≤ n) (hinc : ∀ i j, i < j → j < len → f i < f j) (hf : ∀ x, (∃ i, i < len ∧ f i = x) ↔ ∃ i, k ≤ i ∧ i < s.S ∧ s.st i = x) {sv' kv' ov' : Value} {b o cap : Nat}
    (ht : TM w n pb wr' { s with D := d, low := lowUp s d, S := k, on := on' } { N with sv := sv', kv := kv', ov := ov', K := N.K + 1, cb := upd N.cb N.K b, co := upd N.co N.K o, cc := upd N.cc N.K cap, ln := upd N.ln N.K len, C := upd N.C N.K f }) :
    ∃ s', TI w n m pb A F G wr' s' { N with sv := sv', kv := kv', ov := ov', K := N.K + 1, cb := upd N.cb N.K b, co := upd N.co N.K o, cc := upd N.cc N.K cap, ln := upd N.ln N.K len, C := upd N.C N.K f } ∧ sumTo s'.r n < sumTo s.r n ∧ ∀ u, s.idx u ≠ 0 → s'.idx u ≠ 0 := by
  have e1 : s.D - 1 = d := by omega
  have hv0 := h.inv.cnS d (by omega)
  have hv := h.inv.on_idx hv0
  have hL := lowUp_laws h.inv hD
  have hc' : ¬ s.cx (s.D - 1) < F (s.cn (s.D - 1) + 1) := by rw [e1]; exact hc
  have hcm : ∀ y, A (s.cn (s.D - 1)) y → ∃ e, F (s.cn (s.D - 1)) ≤ e ∧ e < F (s.cn (s.D - 1) + 1) ∧ G e = y := by rw [e1]; exact hC.cmp _ hv.2
  have hl' : s.low (s.cn (s.D - 1)) = s.idx (s.cn (s.D - 1)) := by rw [e1]; exact hl
  have hon' : ∀ x, on' x = true ↔ s.on x = true ∧ s.idx x < s.idx (s.cn (s.D - 1)) := by rw [e1]; exact hon
  have i1 := h.inv.popB (by omega) hcm hc' hl' (lowUp s d) hL.1 hL.2.1 k hk (by rw [e1]; exact hkv) on' hon'
  have f1 := h.tf.pop h.inv (by omega) hc' (s.popB (lowUp s d) k on') rfl rfl rfl rfl rfl rfl
  have hcl := h.inv.cls (by omega) hcm hc' hl'
  have hdn := h.inv.dn_popB (by omega) hcm hc' hl' (lowUp s d) k on' hon'
  rw [e1] at hcl hdn
  have hmem : ∀ x, Mut A (s.cn d) x ↔ ∃ i, i < len ∧ f i = x := fun x => by
    rw [hf, hcl]
    constructor
    · rintro ⟨h2, h3⟩
      obtain ⟨i, hi, rfl⟩ := (h.inv.onS x).1 h2
      refine ⟨i, ?_, hi, rfl⟩
      rcases Nat.lt_or_ge i k with h4 | h4
      · have := h.inv.inc i k h4 hk; rw [hkv] at this; omega
      · exact h4
    · rintro ⟨i, h2, h3, rfl⟩
      refine ⟨(h.inv.onS _).2 ⟨i, h3, rfl⟩, ?_⟩
      rw [← hkv]
      rcases Nat.lt_or_ge k i with h4 | h4
      · exact Nat.le_of_lt (h.inv.inc k i h4 h3)
      · rw [show i = k from by omega]; exact Nat.le_refl _
  have hlst : Lst A (s.cn d) n len f :=
    { mem := fun i hi => by
        have := (hmem (f i)).2 ⟨i, hi, rfl⟩
        exact ⟨(h.inv.on_idx ((hcl _).1 this).1).2, this⟩
      all := fun x _ hm => (hmem x).1 hm
      inc := hinc, le := hlen }
  refine ⟨s.popB (lowUp s d) k on', { tm := ?_, inv := i1, tf := f1.1, tc := h.tc.push (v := s.cn d) hlst h1 (fun hd => ?_) (fun x y hx hm => h.inv.done_reach hx.1 hx.2 hm.1) hdn }, by omega, fun u hu => hu⟩
  · have := ht.setr (s.popB (lowUp s d) k on').r
    have e2 : s.popB (lowUp s d) k on' = { ({ s with D := d, low := lowUp s d, S := k, on := on' } : TS) with r := (s.popB (lowUp s d) k on').r } := by
      unfold TS.popB
      rw [e1]
    rw [e2]
    exact this
  · have := hd.2
    rw [hv0] at this
    cases this

end

end Go.Proofs.Qxb6600486a

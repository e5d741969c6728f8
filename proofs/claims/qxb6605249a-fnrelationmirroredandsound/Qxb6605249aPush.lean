/-
  WHAT 'add' DOES TO THE GRAPH IN MEMORY: a message is laid at a chain's end; its upper bound into the map.
-/
import Derived.Test.Qxb6605249aForget
set_option linter.unusedVariables false
set_option linter.unusedSimpArgs false
namespace Go.Proofs.Qxb6605249a
open Go.RowKit

theorem GC.pvApp {w : World} {R : Rep} {g : GS} (h : GC w R g) (ok : GOk g) {j : Nat} (hj : j < g.n) :
    AppV w 22 (pv R g j) ((g.cnt j + 1 - g.first j) * g.n) (fun i => u64 (g.L j (g.first j + i / g.n) (i % g.n))) := by
  unfold pv
  split
  · rename_i h0
    exact .inl ⟨rfl, by rw [h0, ok.f3 j hj h0]; simp⟩
  · rename_i h0
    exact .inr ⟨_, _, _, rfl, h.pasts j hj h0⟩

theorem GC.avApp {w : World} {R : Rep} {g : GS} (h : GC w R g) (ok : GOk g) {j : Nat} (hj : j < g.n) :
    AppV w 22 (av R g j) (g.cnt j + 1 - g.first j) (fun i => u64 (g.dn j (g.first j + i))) := by
  unfold av
  split
  · rename_i h0
    exact .inl ⟨rfl, by rw [h0, ok.f3 j hj h0]⟩
  · rename_i h0
    exact .inr ⟨_, _, _, rfl, h.ats j hj h0⟩

/-- Message cnt j + 1 of sender j, with its past. -/
def newG (g : GS) (j : Nat) (lo hi : Nat → Nat) : GS :=
  { g with cnt := upd g.cnt j (g.cnt j + 1), L := fun s q => if s = j ∧ q = g.cnt j + 1 then lo else g.L s q, U := fun s q => if s = j ∧ q = g.cnt j + 1 then hi else g.U s q,
           dn := fun s q => if s = j ∧ q = g.cnt j + 1 then g.del + 1 else g.dn s q, del := g.del + 1 }

def pushR (R : Rep) (j b1 o1 c1 b2 o2 c2 : Nat) : Rep :=
  { R with P := upd R.P j b1, oP := upd R.oP j o1, cP := upd R.cP j c1, A := upd R.A j b2, oA := upd R.oA j o2, cA := upd R.cA j c2,
           role := fun b => if b = b1 then (6, j) else if b = b2 then (7, j) else R.role b }

theorem GOk.newG {g : GS} (ok : GOk g) {j : Nat} (hj : j < g.n) (lo hi : Nat → Nat) (h1 : g.del + 1 ≤ 4096) (h2 : g.n * (g.del + 1) ≤ 4194304) : GOk (newG g j lo hi) :=
  { n1 := ok.n1, n2 := ok.n2, f1 := ok.f1
    f2 := fun i hi hc => by
      show g.first i ≤ upd g.cnt j (g.cnt j + 1) i
      by_cases e : i = j
      · subst e
        rw [upd_same]
        by_cases h0 : g.cnt i = 0
        · rw [ok.f3 i hi h0]; omega
        · have := ok.f2 i hi h0; omega
      · rw [upd_ne e]
        have hc' : upd g.cnt j (g.cnt j + 1) i ≠ 0 := hc
        rw [upd_ne e] at hc'
        exact ok.f2 i hi hc'
    f3 := fun i hi hc => by
      have hc' : upd g.cnt j (g.cnt j + 1) i = 0 := hc
      by_cases e : i = j
      · subst e; rw [upd_same] at hc'; omega
      · rw [upd_ne e] at hc'; exact ok.f3 i hi hc'
    c1 := fun i hi => by
      show upd g.cnt j (g.cnt j + 1) i ≤ g.del + 1
      have := ok.c1 i hi
      have := ok.c1 j hj
      by_cases e : i = j
      · rw [e, upd_same]; omega
      · rw [upd_ne e]; omega
    d1 := h1, d2 := h2
    t1 := fun i hi q h1 h2 => by
      show (if i = j ∧ q = g.cnt j + 1 then g.del + 1 else g.dn i q) ≤ g.del + 1
      split
      · omega
      · rename_i hne
        have h2' : q ≤ upd g.cnt j (g.cnt j + 1) i := h2
        have : q ≤ g.cnt i := by
          by_cases e : i = j
          · subst e; rw [upd_same] at h2'; have : q ≠ g.cnt i + 1 := fun e2 => hne ⟨rfl, e2⟩; omega
          · rwa [upd_ne e] at h2'
        have := ok.t1 i hi q h1 this
        omega }

set_option maxHeartbeats 800000 in
/-- The message is laid at the chain's end; its upper bound for now its past. -/
theorem gc_push {w0 w1 w2 w3 w4 w5 : World} {R : Rep} {g : GS} (h : GC w0 R g) (ok : GOk g) {j : Nat} (hj : j < g.n) {lo : Nat → Nat} {b1 o1 c1 b2 o2 c2 : Nat}
    (e1 : w1.heap = (w0.setCell ⟨R.gb, 4, none⟩ (.int .u64 ((g.del + 1 : Nat) : Int))).heap)
    (hA1 : App w2 22 b1 o1 ((g.cnt j + 1 - g.first j) * g.n + g.n) c1 (fun i => if i < (g.cnt j + 1 - g.first j) * g.n then u64 (g.L j (g.first j + i / g.n) (i % g.n)) else u64 (lo (i - (g.cnt j + 1 - g.first j) * g.n))))
    (own1 : (pv R g j).ownBlock = some b1 ∨ b1 = w1.heap.size) (hg1 : w1.grownBy w2 (pv R g j).ownBlock)
    (hg3 : ∃ w3' : World, w3'.heap = (w2.setCell ⟨R.cb, j * 3 + 1, none⟩ (.slice (some ⟨b1, o1, none⟩) ((g.cnt j + 1 - g.first j) * g.n + g.n) c1)).heap ∧ w3'.grownBy w3 none)
    (hA2 : App w4 22 b2 o2 (g.cnt j + 1 - g.first j + 1) c2 (fun i => if i < g.cnt j + 1 - g.first j then u64 (g.dn j (g.first j + i)) else u64 (g.del + 1)))
    (own2 : (av R g j).ownBlock = some b2 ∨ b2 = w3.heap.size) (hg2 : w3.grownBy w4 (av R g j).ownBlock)
    (e5 : w5.heap = (w4.setCell ⟨R.cb, j * 3 + 2, none⟩ (.slice (some ⟨b2, o2, none⟩) (g.cnt j + 1 - g.first j + 1) c2)).heap) :
    GC w5 (pushR R j b1 o1 c1 b2 o2 c2) (newG g j lo lo) ∧ (∀ b, b < w0.heap.size → (R.role b).1 ≠ 1 → (R.role b).1 ≠ 2 → R.role b ≠ (6, j) → R.role b ≠ (7, j) → w5.heap[b]? = w0.heap[b]?) ∧ w0.heap.size ≤ w5.heap.size ∧
      (∀ b, (R.role b).1 ≠ 0 → (pushR R j b1 o1 c1 b2 o2 c2).role b = R.role b) := by
  obtain ⟨w3', e3, hg3⟩ := hg3
  have hn1 := ok.n1
  have r1 := h.r1
  have r2 := h.r2
  have r5 := h.r5
  have ngc : R.gb ≠ R.cb := fun e => by rw [e, r2] at r1; simp at r1
  have s1 : w1.heap.size = w0.heap.size := by rw [e1]; simp
  have s2 : w0.heap.size ≤ w2.heap.size := by rw [← s1]; exact hg1.size
  have s3 : w2.heap.size ≤ w3.heap.size := by have := hg3.size; rw [e3] at this; simpa using this
  have s4 : w3.heap.size ≤ w4.heap.size := hg2.size
  have s5 : w5.heap.size = w4.heap.size := by rw [e5]; simp
  -- where the two rows lie
  have pvb : ∀ b, (pv R g j).ownBlock = some b → R.role b = (6, j) ∧ b < w0.heap.size ∧ g.cnt j ≠ 0 ∧ b = R.P j := fun b hb => by
    unfold pv at hb
    split at hb
    · simp [Value.ownBlock] at hb
    · rename_i h0
      simp [Value.ownBlock] at hb
      subst hb
      exact ⟨h.r6 j hj h0, (h.pasts j hj h0).lt, h0, rfl⟩
  have avb : ∀ b, (av R g j).ownBlock = some b → R.role b = (7, j) ∧ b < w0.heap.size ∧ g.cnt j ≠ 0 ∧ b = R.A j := fun b hb => by
    unfold av at hb
    split at hb
    · simp [Value.ownBlock] at hb
    · rename_i h0
      simp [Value.ownBlock] at hb
      subst hb
      exact ⟨h.r7 j hj h0, (h.ats j hj h0).lt, h0, rfl⟩
  have fresh : ∀ b, w0.heap.size ≤ b → R.role b = (0, (R.role b).2) := fun b hb => by
    have : (R.role b).1 = 0 := by
      rcases Nat.eq_zero_or_pos (R.role b).1 with h0 | h0
      · exact h0
      · exact absurd (h.rlt b (by omega)) (by omega)
    exact Prod.ext this rfl
  have b1c : R.role b1 = (6, j) ∨ w0.heap.size ≤ b1 := by
    rcases own1 with e | e
    · exact .inl (pvb b1 e).1
    · exact .inr (by omega)
  have b2c : R.role b2 = (7, j) ∨ w2.heap.size ≤ b2 := by
    rcases own2 with e | e
    · exact .inl (avb b2 e).1
    · exact .inr (by omega)
  have b1lt : b1 < w2.heap.size := hA1.lt
  have ne12 : b1 ≠ b2 := fun e => by
    subst e
    rcases b2c with h2 | h2
    · rcases b1c with h1 | h1
      · rw [h1] at h2; simp at h2
      · have := h.rlt b1 (by rw [h2]; simp); omega
    · omega
  have b1role : ∀ b, (R.role b).1 ≠ 0 → R.role b ≠ (6, j) → b ≠ b1 := fun b h0 h6 e => by
    subst e
    rcases b1c with h1 | h1
    · exact h6 h1
    · exact absurd (h.rlt b h0) (by omega)
  have b2role : ∀ b, (R.role b).1 ≠ 0 → R.role b ≠ (7, j) → b ≠ b2 := fun b h0 h6 e => by
    subst e
    rcases b2c with h1 | h1
    · exact h6 h1
    · exact absurd (h.rlt b h0) (by omega)
  -- role as it is now
  have rold : ∀ b, (R.role b).1 ≠ 0 → (pushR R j b1 o1 c1 b2 o2 c2).role b = R.role b := fun b h0 => by
    show (if b = b1 then (6, j) else if b = b2 then (7, j) else R.role b) = R.role b
    split
    · rename_i e
      subst e
      rcases b1c with h1 | h1
      · exact h1.symm
      · exact absurd (h.rlt b h0) (by omega)
    · split
      · rename_i e
        subst e
        rcases b2c with h1 | h1
        · exact h1.symm
        · exact absurd (h.rlt b h0) (by omega)
      · rfl
  -- blocks that stand
  have stay : ∀ b, b < w0.heap.size → b ≠ R.gb → b ≠ R.cb → R.role b ≠ (6, j) → R.role b ≠ (7, j) → w5.heap[b]? = w0.heap[b]? := fun b hb h1 h2 h6 h7 => by
    rw [e5, heap_setCell_other _ _ _ _ (by simpa using h2), hg2.block b (by omega) (fun e => h7 (avb b e.symm).1), hg3.block b (by rw [e3]; simp; omega) (by simp), e3,
      heap_setCell_other _ _ _ _ (by simpa using h2), hg1.block b (by omega) (fun e => h6 (pvb b e.symm).1), e1, heap_setCell_other _ _ _ _ (by simpa using h1)]
  have stayR : ∀ b, (R.role b).1 ≠ 0 → (R.role b).1 ≠ 1 → (R.role b).1 ≠ 2 → R.role b ≠ (6, j) → R.role b ≠ (7, j) → w5.heap[b]? = w0.heap[b]? := fun b h0 h1 h2 h6 h7 =>
    stay b (h.rlt b h0) (fun e => by rw [e, r1] at h1; simp at h1) (fun e => by rw [e, r2] at h2; simp at h2) h6 h7
  -- the struct
  have gblk : w5.heap[R.gb]? = (w0.setCell ⟨R.gb, 4, none⟩ (.int .u64 ((g.del + 1 : Nat) : Int))).heap[R.gb]? := by
    have := h.lgb
    rw [e5, heap_setCell_other _ _ _ _ (by simpa using ngc), hg2.block R.gb (by omega) (fun e => by have := (avb _ e.symm).1; rw [r1] at this; simp at this), hg3.block R.gb (by rw [e3]; simp; omega) (by simp), e3,
      heap_setCell_other _ _ _ _ (by simpa using ngc), hg1.block R.gb (by omega) (fun e => by have := (pvb _ e.symm).1; rw [r1] at this; simp at this), e1]
  have gcell : ∀ i v, i ≠ 4 → w0.cell? ⟨R.gb, i, none⟩ = some v → w5.cell? ⟨R.gb, i, none⟩ = some v := fun i v hi hv => by
    rw [World.cell?_of_block (w := w0.setCell ⟨R.gb, 4, none⟩ (.int .u64 ((g.del + 1 : Nat) : Int))) (w' := w5) (a := ⟨R.gb, i, none⟩) gblk, World.cell?_setCell_other _ _ _ _ (addr_ne (by omega))]
    exact hv
  -- the chains
  have lcb := h.lcb
  have cb2 : w2.heap[R.cb]? = w0.heap[R.cb]? := by
    rw [hg1.block R.cb (by omega) (fun e => by have := (pvb _ e.symm).1; rw [r2] at this; simp at this), e1, heap_setCell_other _ _ _ _ (by simpa using Ne.symm ngc)]
  have cb4 : w4.heap[R.cb]? = (w2.setCell ⟨R.cb, j * 3 + 1, none⟩ (.slice (some ⟨b1, o1, none⟩) ((g.cnt j + 1 - g.first j) * g.n + g.n) c1)).heap[R.cb]? := by
    rw [hg2.block R.cb (by omega) (fun e => by have := (avb _ e.symm).1; rw [r2] at this; simp at this), hg3.block R.cb (by rw [e3]; simp; omega) (by simp), e3]
  have bl2 : Blk w2 R.cb 55 (g.n * 3) := h.cblk.of_block cb2
  have bl4 : Blk w4 R.cb 55 (g.n * 3) := by
    obtain ⟨c, hc, hs⟩ := bl2.set (j * 3 + 1) (.slice (some ⟨b1, o1, none⟩) ((g.cnt j + 1 - g.first j) * g.n + g.n) c1)
    exact ⟨c, cb4.trans hc, hs⟩
  have bl5 : Blk w5 R.cb 55 (g.n * 3) := by
    obtain ⟨c, hc, hs⟩ := bl4.set (j * 3 + 2) (.slice (some ⟨b2, o2, none⟩) (g.cnt j + 1 - g.first j + 1) c2)
    exact ⟨c, by rw [e5]; exact hc, hs⟩
  have c5 : ∀ i, i ≠ j * 3 + 2 → w5.cell? ⟨R.cb, i, none⟩ = w4.cell? ⟨R.cb, i, none⟩ := fun i hi => by
    have : w5.cell? ⟨R.cb, i, none⟩ = (w4.setCell ⟨R.cb, j * 3 + 2, none⟩ (.slice (some ⟨b2, o2, none⟩) (g.cnt j + 1 - g.first j + 1) c2)).cell? ⟨R.cb, i, none⟩ := by
      unfold World.cell?; rw [e5]
    rw [this, World.cell?_setCell_other _ _ _ _ (addr_ne (by omega))]
  have c4 : ∀ i, i ≠ j * 3 + 1 → w4.cell? ⟨R.cb, i, none⟩ = w0.cell? ⟨R.cb, i, none⟩ := fun i hi => by
    rw [World.cell?_of_block (w := w2.setCell ⟨R.cb, j * 3 + 1, none⟩ (.slice (some ⟨b1, o1, none⟩) ((g.cnt j + 1 - g.first j) * g.n + g.n) c1)) (w' := w4) (a := ⟨R.cb, i, none⟩) cb4,
      World.cell?_setCell_other _ _ _ _ (addr_ne (by omega)), World.cell?_of_block (w := w0) (w' := w2) (a := ⟨R.cb, i, none⟩) cb2]
  have n1 : w5.cell? ⟨R.cb, j * 3 + 1, none⟩ = some (.slice (some ⟨b1, o1, none⟩) ((g.cnt j + 1 - g.first j) * g.n + g.n) c1) := by
    rw [c5 _ (by omega), World.cell?_of_block (w := w2.setCell ⟨R.cb, j * 3 + 1, none⟩ (.slice (some ⟨b1, o1, none⟩) ((g.cnt j + 1 - g.first j) * g.n + g.n) c1)) (w' := w4) (a := ⟨R.cb, j * 3 + 1, none⟩) cb4,
      World.cell?_setCell_same _ _ _ (u := pv R g j) (cell_keep cb2 (h.c1 j hj))]
  have n2 : w5.cell? ⟨R.cb, j * 3 + 2, none⟩ = some (.slice (some ⟨b2, o2, none⟩) (g.cnt j + 1 - g.first j + 1) c2) := by
    have : w5.cell? ⟨R.cb, j * 3 + 2, none⟩ = (w4.setCell ⟨R.cb, j * 3 + 2, none⟩ (.slice (some ⟨b2, o2, none⟩) (g.cnt j + 1 - g.first j + 1) c2)).cell? ⟨R.cb, j * 3 + 2, none⟩ := by
      unfold World.cell?; rw [e5]
    rw [this, World.cell?_setCell_same _ _ _ (u := av R g j) (by rw [c4 _ (by omega)]; exact h.c2 j hj)]
  -- the rows
  have hA2' : App w5 22 b2 o2 (g.cnt j + 1 - g.first j + 1) c2 (fun i => if i < g.cnt j + 1 - g.first j then u64 (g.dn j (g.first j + i)) else u64 (g.del + 1)) :=
    hA2.of_block (by rw [e5, heap_setCell_other _ _ _ _ (by simpa using Ne.symm (b2role R.cb (by rw [r2]; simp) (by rw [r2]; simp)))])
  have hA1' : App w5 22 b1 o1 ((g.cnt j + 1 - g.first j) * g.n + g.n) c1 (fun i => if i < (g.cnt j + 1 - g.first j) * g.n then u64 (g.L j (g.first j + i / g.n) (i % g.n)) else u64 (lo (i - (g.cnt j + 1 - g.first j) * g.n))) := by
    have ncb : b1 ≠ R.cb := Ne.symm (b1role R.cb (by rw [r2]; simp) (by rw [r2]; simp))
    refine hA1.of_block ?_
    rw [e5, heap_setCell_other _ _ _ _ (by simpa using ncb), hg2.block b1 (by omega) (fun e => by
      have h7 := avb _ e.symm
      rcases b1c with h1 | h1
      · rw [h7.1] at h1; simp at h1
      · omega), hg3.block b1 (by rw [e3]; simp; exact b1lt) (by simp), e3, heap_setCell_other _ _ _ _ (by simpa using ncb)]
  have hf : g.first j ≤ g.cnt j + 1 := by
    by_cases h0 : g.cnt j = 0
    · rw [ok.f3 j hj h0]; omega
    · have := ok.f2 j hj h0; omega
  have m1 : (g.cnt j + 1 - g.first j) * g.n + g.n = (g.cnt j + 1 + 1 - g.first j) * g.n := by
    rw [show g.cnt j + 1 + 1 - g.first j = (g.cnt j + 1 - g.first j) + 1 from by omega, Nat.add_mul]; omega
  have cne : ∀ i, i < g.n → i ≠ j → (newG g j lo lo).cnt i = g.cnt i := fun i _ e => upd_ne e
  have ceq : (newG g j lo lo).cnt j = g.cnt j + 1 := upd_same _ _ _
  refine ⟨?_, fun b hb h1 h2 h6 h7 => ?_, by omega, rold⟩
  · exact
      { gblk := by obtain ⟨c, hc, hs⟩ := h.gblk.set 4 (.int .u64 ((g.del + 1 : Nat) : Int)); exact ⟨c, gblk.trans hc, hs⟩
        g0 := gcell 0 _ (by omega) h.g0, g1 := gcell 1 _ (by omega) h.g1, g2 := gcell 2 _ (by omega) h.g2, g3 := gcell 3 _ (by omega) h.g3
        g4 := by
          show w5.cell? ⟨R.gb, 4, none⟩ = _
          rw [World.cell?_of_block (w := w0.setCell ⟨R.gb, 4, none⟩ (.int .u64 ((g.del + 1 : Nat) : Int))) (w' := w5) (a := ⟨R.gb, 4, none⟩) gblk, World.cell?_setCell_same _ _ _ h.g4]; rfl
        g5 := gcell 5 _ (by omega) h.g5, g6 := gcell 6 _ (by omega) h.g6, g7 := gcell 7 _ (by omega) h.g7
        cblk := bl5
        c0 := fun i hi => by
          show w5.cell? ⟨R.cb, i * 3, none⟩ = some (.int .u64 (g.first i))
          rw [c5 _ (by omega), c4 _ (by omega)]; exact h.c0 i hi
        c1 := fun i hi => by
          show w5.cell? ⟨R.cb, i * 3 + 1, none⟩ = some (pv (pushR R j b1 o1 c1 b2 o2 c2) (newG g j lo lo) i)
          by_cases e : i = j
          · subst e
            rw [pv, if_neg (by rw [ceq]; omega), n1, ceq]
            simp only [pushR, newG, upd_same, m1]
          · have : pv (pushR R j b1 o1 c1 b2 o2 c2) (newG g j lo lo) i = pv R g i := by simp [pv, pushR, newG, upd_ne e]
            rw [this, c5 _ (by omega), c4 _ (by omega)]; exact h.c1 i hi
        c2 := fun i hi => by
          show w5.cell? ⟨R.cb, i * 3 + 2, none⟩ = some (av (pushR R j b1 o1 c1 b2 o2 c2) (newG g j lo lo) i)
          by_cases e : i = j
          · subst e
            rw [av, if_neg (by rw [ceq]; omega), n2, ceq]
            simp only [pushR, newG, upd_same]
            rw [show g.cnt i + 1 - g.first i + 1 = g.cnt i + 1 + 1 - g.first i from by omega]
          · have : av (pushR R j b1 o1 c1 b2 o2 c2) (newG g j lo lo) i = av R g i := by simp [av, pushR, newG, upd_ne e]
            rw [this, c5 _ (by omega), c4 _ (by omega)]; exact h.c2 i hi
        pasts := fun i hi hc => by
          by_cases e : i = j
          · subst e
            simp only [pushR, newG, upd_same]
            rw [← m1]
            refine hA1'.congr (fun t ht => ?_)
            by_cases h1 : t < (g.cnt i + 1 - g.first i) * g.n
            · rw [if_pos h1]
              have h2 : t / g.n < g.cnt i + 1 - g.first i := Nat.div_lt_of_lt_mul (by rw [Nat.mul_comm]; exact h1)
              rw [if_neg (fun e2 => by have := e2.2; omega)]
            · rw [if_neg h1]
              obtain ⟨d, hd⟩ : ∃ d, t = (g.cnt i + 1 - g.first i) * g.n + d := ⟨t - (g.cnt i + 1 - g.first i) * g.n, by omega⟩
              have hd2 : d < g.n := by omega
              have q1 : t / g.n = g.cnt i + 1 - g.first i := by
                rw [hd, Nat.add_comm, Nat.add_mul_div_right _ _ (by omega), Nat.div_eq_of_lt hd2, Nat.zero_add]
              have q2 : t % g.n = d := by
                rw [hd, Nat.add_comm, Nat.add_mul_mod_self_right, Nat.mod_eq_of_lt hd2]
              rw [q1, q2, if_pos ⟨trivial, by omega⟩, hd, Nat.add_sub_cancel_left]
          · have hc' : g.cnt i ≠ 0 := by have : (newG g j lo lo).cnt i ≠ 0 := hc; rwa [cne i hi e] at this
            have hP := h.r6 i hi hc'
            have := (h.pasts i hi hc').of_block (stayR (R.P i) (by rw [hP]; simp) (by rw [hP]; simp) (by rw [hP]; simp) (by rw [hP]; simpa using e) (by rw [hP]; simp))
            simp only [pushR, newG, upd_ne e]
            refine this.congr (fun t _ => ?_)
            rw [if_neg (fun e2 => e e2.1)]
        ats := fun i hi hc => by
          by_cases e : i = j
          · subst e
            simp only [pushR, newG, upd_same]
            rw [show g.cnt i + 1 + 1 - g.first i = g.cnt i + 1 - g.first i + 1 from by omega]
            refine hA2'.congr (fun t ht => ?_)
            by_cases h1 : t < g.cnt i + 1 - g.first i
            · rw [if_pos h1, if_neg (fun e2 => by have := e2.2; omega)]
            · rw [if_neg h1, if_pos ⟨trivial, by omega⟩]
          · have hc' : g.cnt i ≠ 0 := by have : (newG g j lo lo).cnt i ≠ 0 := hc; rwa [cne i hi e] at this
            have hP := h.r7 i hi hc'
            have := (h.ats i hi hc').of_block (stayR (R.A i) (by rw [hP]; simp) (by rw [hP]; simp) (by rw [hP]; simp) (by rw [hP]; simp) (by rw [hP]; simpa using e))
            simp only [pushR, newG, upd_ne e]
            refine this.congr (fun t _ => ?_)
            rw [if_neg (fun e2 => e e2.1)]
        map := h.map.of_block (stayR R.mb (by rw [r5]; simp) (by rw [r5]; simp) (by rw [r5]; simp) (by rw [r5]; simp) (by rw [r5]; simp))
        ups := fun i hi q h1 h2 => by
          show (R.M i q = none ∧ ∀ k, k < g.n → (if i = j ∧ q = g.cnt j + 1 then lo else g.U i q) k = (if i = j ∧ q = g.cnt j + 1 then lo else g.L i q) k) ∨ ∃ b o c, R.M i q = some (.slice (some ⟨b, o, none⟩) g.n c) ∧ ((pushR R j b1 o1 c1 b2 o2 c2).role b).1 = 8 ∧ Seg w5 b o g.n (fun k => u64 ((if i = j ∧ q = g.cnt j + 1 then lo else g.U i q) k))
          by_cases e : i = j ∧ q = g.cnt j + 1
          · simp only [if_pos e]
            exact .inl ⟨by rw [e.1]; exact h.mnew j q (by omega), fun _ _ => trivial⟩
          · simp only [if_neg e]
            have h2' : q ≤ g.cnt i := by
              have h3 : q ≤ upd g.cnt j (g.cnt j + 1) i := h2
              by_cases e2 : i = j
              · subst e2; rw [upd_same] at h3; have : q ≠ g.cnt i + 1 := fun e3 => e ⟨rfl, e3⟩; omega
              · rwa [upd_ne e2] at h3
            rcases h.ups i hi q h1 h2' with h3 | ⟨b, o, c, h4, h5, h6⟩
            · exact .inl h3
            · refine .inr ⟨b, o, c, h4, by rw [rold b (by omega)]; exact h5, h6.of_block (stayR b (by omega) (by omega) (by omega) (fun e => by rw [e] at h5; simp at h5) (fun e => by rw [e] at h5; simp at h5))⟩
        mnew := fun i q hq => by
          have hq' : upd g.cnt j (g.cnt j + 1) i < q := hq
          refine h.mnew i q ?_
          by_cases e : i = j
          · subst e; rw [upd_same] at hq'; omega
          · rwa [upd_ne e] at hq'
        r1 := by rw [rold _ (by show (R.role R.gb).1 ≠ 0; rw [r1]; simp)]; exact r1
        r2 := by rw [rold _ (by show (R.role R.cb).1 ≠ 0; rw [r2]; simp)]; exact r2
        r3 := by rw [rold _ (by show (R.role R.lb).1 ≠ 0; rw [h.r3]; simp)]; exact h.r3
        r4 := by rw [rold _ (by show (R.role R.hb).1 ≠ 0; rw [h.r4]; simp)]; exact h.r4
        r5 := by rw [rold _ (by show (R.role R.mb).1 ≠ 0; rw [r5]; simp)]; exact r5
        r6 := fun i hi hc => by
          show (if upd R.P j b1 i = b1 then (6, j) else if upd R.P j b1 i = b2 then (7, j) else R.role (upd R.P j b1 i)) = (6, i)
          by_cases e : i = j
          · subst e; rw [upd_same, if_pos rfl]
          · rw [upd_ne e]
            have hc' : g.cnt i ≠ 0 := by have : (newG g j lo lo).cnt i ≠ 0 := hc; rwa [cne i hi e] at this
            have hP := h.r6 i hi hc'
            have := rold (R.P i) (by rw [hP]; simp)
            exact this.trans hP
        r7 := fun i hi hc => by
          show (if upd R.A j b2 i = b1 then (6, j) else if upd R.A j b2 i = b2 then (7, j) else R.role (upd R.A j b2 i)) = (7, i)
          by_cases e : i = j
          · subst e; rw [upd_same, if_neg (Ne.symm ne12), if_pos rfl]
          · rw [upd_ne e]
            have hc' : g.cnt i ≠ 0 := by have : (newG g j lo lo).cnt i ≠ 0 := hc; rwa [cne i hi e] at this
            have hP := h.r7 i hi hc'
            have := rold (R.A i) (by rw [hP]; simp)
            exact this.trans hP
        rlt := fun b hb => by
          have hb' : ((if b = b1 then ((6, j) : Nat × Nat) else if b = b2 then (7, j) else R.role b)).1 ≠ 0 := hb
          split at hb'
          · rename_i e; rw [e]; exact hA1'.lt
          · split at hb'
            · rename_i e; rw [e]; exact hA2'.lt
            · have := h.rlt b hb'; omega
        rbase := fun b hb => by
          have hb' : ((if b = b1 then ((6, j) : Nat × Nat) else if b = b2 then (7, j) else R.role b)).1 ≠ 0 := hb
          have hsz : R.base ≤ w0.heap.size := by have := h.rbase R.gb (by rw [r1]; simp); have := h.lgb; omega
          show R.base ≤ b
          split at hb'
          · rename_i e
            rcases b1c with h1 | h1
            · rw [e]; exact h.rbase b1 (by rw [h1]; simp)
            · omega
          · split at hb'
            · rename_i e
              rcases b2c with h1 | h1
              · rw [e]; exact h.rbase b2 (by rw [h1]; simp)
              · omega
            · exact h.rbase b hb' }
  · exact stay b hb (fun e => by rw [e, r1] at h1; simp at h1) (fun e => by rw [e, r2] at h2; simp at h2) h6 h7

/-- U matters below n alone. -/
theorem GC.congrU {w : World} {R : Rep} {g : GS} (h : GC w R g) {U' : Nat → Nat → Nat → Nat} (e : ∀ j q k, k < g.n → g.U j q k = U' j q k) : GC w R { g with U := U' } :=
  { gblk := h.gblk, g0 := h.g0, g1 := h.g1, g2 := h.g2, g3 := h.g3, g4 := h.g4, g5 := h.g5, g6 := h.g6, g7 := h.g7, cblk := h.cblk, c0 := h.c0, c1 := h.c1, c2 := h.c2, pasts := h.pasts, ats := h.ats, map := h.map
    ups := fun j hj q h1 h2 => by
      rcases h.ups j hj q h1 h2 with ⟨h3, h4⟩ | ⟨b, o, c, h4, h5, h6⟩
      · exact .inl ⟨h3, fun k hk => (e j q k hk).symm.trans (h4 k hk)⟩
      · exact .inr ⟨b, o, c, h4, h5, h6.congr (fun k hk => by rw [e j q k hk])⟩
    mnew := h.mnew, r1 := h.r1, r2 := h.r2, r3 := h.r3, r4 := h.r4, r5 := h.r5, r6 := h.r6, r7 := h.r7, rlt := h.rlt, rbase := h.rbase }

def mapR (R : Rep) (j q ub : Nat) (v : Value) : Rep := { R with M := fun s' q' => if s' = j ∧ q' = q then some v else R.M s' q', role := fun b => if b = ub then (8, 0) else R.role b }

/-- The upper bound of message q of sender j is laid into the map. -/
theorem gc_setUp {w0 w1 w2 : World} {R : Rep} {g : GS} (h : GC w0 R g) {j q : Nat} {hi : Nat → Nat} {ub uo uc : Nat}
    (hq : q = g.cnt j) (hb1 : Below w0.heap.size w0 w1) (hA : App w1 22 ub uo g.n uc (fun k => u64 (hi k))) (hub : w0.heap.size ≤ ub) (hlt : ub < w1.heap.size)
    (hM : MapIs w2 R.mb (fun s' q' => if s' = j ∧ q' = q then some (.slice (some ⟨ub, uo, none⟩) g.n uc) else R.M s' q')) (hg : w1.grownBy w2 (some R.mb)) :
    GC w2 (mapR R j q ub (.slice (some ⟨ub, uo, none⟩) g.n uc)) { g with U := fun s' q' => if s' = j ∧ q' = q then hi else g.U s' q' } := by
  have r5 := h.r5
  have hmb : R.mb < w0.heap.size := h.map.lt
  have stay : ∀ b, b < w0.heap.size → b ≠ R.mb → w2.heap[b]? = w0.heap[b]? := fun b hb hne => by
    rw [hg.block b (Nat.lt_of_lt_of_le hb hb1.size) (by simpa using hne), hb1.block b hb]
  have stayR : ∀ b, (R.role b).1 ≠ 0 → (R.role b).1 ≠ 5 → w2.heap[b]? = w0.heap[b]? := fun b h0 h5 => stay b (h.rlt b h0) (fun e => by rw [e, r5] at h5; simp at h5)
  have rold : ∀ b, (R.role b).1 ≠ 0 → (mapR R j q ub (.slice (some ⟨ub, uo, none⟩) g.n uc)).role b = R.role b := fun b h0 => by
    show (if b = ub then (8, 0) else R.role b) = R.role b
    rw [if_neg (fun e => by have := h.rlt b h0; omega)]
  have eg := stayR R.gb (by rw [h.r1]; simp) (by rw [h.r1]; simp)
  have ec := stayR R.cb (by rw [h.r2]; simp) (by rw [h.r2]; simp)
  have s2 : w0.heap.size ≤ w2.heap.size := Nat.le_trans hb1.size hg.size
  exact
    { gblk := h.gblk.of_block eg, g0 := cell_keep eg h.g0, g1 := cell_keep eg h.g1, g2 := cell_keep eg h.g2, g3 := cell_keep eg h.g3, g4 := cell_keep eg h.g4, g5 := cell_keep eg h.g5, g6 := cell_keep eg h.g6, g7 := cell_keep eg h.g7
      cblk := h.cblk.of_block ec, c0 := fun j hj => cell_keep ec (h.c0 j hj), c1 := fun j hj => cell_keep ec (h.c1 j hj), c2 := fun j hj => cell_keep ec (h.c2 j hj)
      pasts := fun i hi hc => (h.pasts i hi hc).of_block (stayR _ (by rw [h.r6 i hi hc]; simp) (by rw [h.r6 i hi hc]; simp))
      ats := fun i hi hc => (h.ats i hi hc).of_block (stayR _ (by rw [h.r7 i hi hc]; simp) (by rw [h.r7 i hi hc]; simp))
      map := hM
      ups := fun i hi' t h1 h2 => by
        show ((if i = j ∧ t = q then some (Value.slice (some ⟨ub, uo, none⟩) g.n uc) else R.M i t) = none ∧ ∀ k, k < g.n → (if i = j ∧ t = q then hi else g.U i t) k = g.L i t k) ∨
          ∃ b o c, (if i = j ∧ t = q then some (Value.slice (some ⟨ub, uo, none⟩) g.n uc) else R.M i t) = some (.slice (some ⟨b, o, none⟩) g.n c) ∧ ((mapR R j q ub (.slice (some ⟨ub, uo, none⟩) g.n uc)).role b).1 = 8 ∧ Seg w2 b o g.n (fun k => u64 ((if i = j ∧ t = q then hi else g.U i t) k))
        by_cases e : i = j ∧ t = q
        · simp only [if_pos e]
          refine .inr ⟨ub, uo, uc, rfl, ?_, hA.seg.of_block (hg.block ub hlt (fun e2 => by cases e2; omega))⟩
          show ((if ub = ub then ((8, 0) : Nat × Nat) else R.role ub)).1 = 8
          rw [if_pos rfl]
        · simp only [if_neg e]
          rcases h.ups i hi' t h1 h2 with h3 | ⟨b, o, c, h4, h5, h6⟩
          · exact .inl h3
          · exact .inr ⟨b, o, c, h4, by rw [rold b (by omega)]; exact h5, h6.of_block (stayR b (by omega) (by omega))⟩
      mnew := fun i t ht => by
        show (if i = j ∧ t = q then some (Value.slice (some ⟨ub, uo, none⟩) g.n uc) else R.M i t) = none
        rw [if_neg (fun e => by obtain ⟨rfl, rfl⟩ := e; have : g.cnt i < t := ht; omega)]
        exact h.mnew i t ht
      r1 := by rw [rold _ (by show (R.role R.gb).1 ≠ 0; rw [h.r1]; simp)]; exact h.r1
      r2 := by rw [rold _ (by show (R.role R.cb).1 ≠ 0; rw [h.r2]; simp)]; exact h.r2
      r3 := by rw [rold _ (by show (R.role R.lb).1 ≠ 0; rw [h.r3]; simp)]; exact h.r3
      r4 := by rw [rold _ (by show (R.role R.hb).1 ≠ 0; rw [h.r4]; simp)]; exact h.r4
      r5 := by rw [rold _ (by show (R.role R.mb).1 ≠ 0; rw [r5]; simp)]; exact r5
      r6 := fun i hi hc => by rw [rold _ (by show (R.role (R.P i)).1 ≠ 0; rw [h.r6 i hi hc]; simp)]; exact h.r6 i hi hc
      r7 := fun i hi hc => by rw [rold _ (by show (R.role (R.A i)).1 ≠ 0; rw [h.r7 i hi hc]; simp)]; exact h.r7 i hi hc
      rlt := fun b hb => by
        have hb' : ((if b = ub then ((8, 0) : Nat × Nat) else R.role b)).1 ≠ 0 := hb
        split at hb'
        · rename_i e; rw [e]; exact Nat.lt_of_lt_of_le hlt hg.size
        · exact Nat.lt_of_lt_of_le (h.rlt b hb') s2
      rbase := fun b hb => by
        have hb' : ((if b = ub then ((8, 0) : Nat × Nat) else R.role b)).1 ≠ 0 := hb
        have hsz : R.base ≤ w0.heap.size := by have := h.rbase R.gb (by rw [h.r1]; simp); have := h.lgb; omega
        show R.base ≤ b
        split at hb'
        · omega
        · exact h.rbase b hb' }

end Go.Proofs.Qxb6605249a

/-
  PARTS OF THE WALK OF add: the plain functions, and what each step does to the state.
-/
import Derived.Test.Qxb6605249aPush
import Derived.Deep.DeepCutAuto
set_option linter.unusedVariables false
set_option linter.unusedSimpArgs false
namespace Go.Proofs.Qxb6605249a
open Go.RowKit

/-- clear, as a run. -/
theorem run_clear_row {w : World} (ty : TypeId) (g n cap : Nat) (hn0 : 0 < n) (f0 : Nat → Value) (hg : w.rowIs g 22 n f0) :
    ∃ w', (Builtin.clear_ #[24] ty #[.slice (some ⟨g, 0, none⟩) n cap]).run Try.prog w = .ok (.tuple #[]) w' ∧ w'.rowIs g 22 n (fun _ => u64 0) ∧ w.grownBy w' (some g) := by
  obtain ⟨c, hc, hn, hcc⟩ := hg
  have hzl : (Builtin.zeroCells (Value.int .u64 0).cells n).toList = List.replicate n (.int .u64 0) := by
    apply List.ext_getElem
    · simp [Builtin.zeroCells, Value.cells]
    · intro i h1 h2
      simp [Builtin.zeroCells, Nat.mod_one, Value.cells]
  have hst := run_storeCells_cells (P := Try.prog) g 0 (List.replicate n (.int .u64 0)) 0 w
    (fun j hj => by rw [show 0 + 0 + j = j from by omega, cell_of_row w g j c 22 (0, 0) hc, hcc j (by simpa using hj)]; rfl)
    (fun j _ => frozen_of_row w g _ c 22 hc) (fun v hv => by rw [List.eq_of_mem_replicate hv]; rfl)
  refine ⟨w.setCells g 0 (List.replicate n (.int .u64 0)), ?_, ?_, setCells_grownBy g _ 0 w⟩
  · simp only [Nat.add_zero] at hst
    obtain ⟨m, rfl⟩ : ∃ m, n = m + 1 := ⟨n - 1, by omega⟩
    simp [Builtin.clear_, run_underlying Try.underlying24, Try.zero22, hzl, hst]
  · refine (rowIs_setCells_all ⟨c, hc, hn, hcc⟩ (List.replicate n (.int .u64 0)) (by simp)).congr (fun i hi => ?_)
    simp [List.getD, hi, u64]

theorem run_copy_rows {w : World} (ty : TypeId) (g n dCap fb fo sCap : Nat) (f0 f : Nat → Value) (hg : w.rowIs g 22 n f0) (hf : Seg w fb fo n f) (h1 : ∀ i, i < n → (f i).oneCell' = true) :
    ∃ w', (Builtin.copy_ #[24, 24] ty #[.slice (some ⟨g, 0, none⟩) n dCap, .slice (some ⟨fb, fo, none⟩) n sCap]).run Try.prog w = .ok (goInt n) w' ∧ w'.rowIs g 22 n f ∧ w.grownBy w' (some g) := by
  obtain ⟨c, hc, hn, hcc⟩ := hg
  have hlen : ((List.range n).map f).length = n := by simp
  have hl := run_loadCells_list (P := Try.prog) w ⟨fb, fo, none⟩ ((List.range n).map f) (fun j v hv => by
    have hj : j < n := by
      rcases Nat.lt_or_ge j n with h | h
      · exact h
      · rw [List.getElem?_eq_none (by simpa using h)] at hv; cases hv
    rw [show (⟨fb, fo, none⟩ : Addr).add j = ⟨fb, fo + j, none⟩ from by unfold Addr.add; split <;> simp_all, hf j hj]
    simpa [hj] using hv)
  have hst := run_storeCells_cells (P := Try.prog) g 0 ((List.range n).map f) 0 w
    (fun j hj => by rw [show 0 + 0 + j = j from by omega, cell_of_row w g j c 22 (0, 0) hc, hcc j (by simpa using hj)]; rfl)
    (fun j _ => frozen_of_row w g _ c 22 hc) (fun v hv => by obtain ⟨i, hi, rfl⟩ := List.mem_map.1 hv; exact h1 i (by simpa using hi))
  refine ⟨w.setCells g 0 ((List.range n).map f), ?_, ?_, setCells_grownBy g _ 0 w⟩
  · have hsz := Try.size22
    cases hq : Try.prog.info? 22 with
    | none => simp [hq] at hsz
    | some i =>
      have hi : i.size = 1 := by simpa [hq] using hsz
      rw [hlen] at hl
      simp only [Nat.add_zero] at hst
      simp [Builtin.copy_, run_underlying Try.underlying24, Builtin.lenOf, Builtin.firstCells, sizeOf, typeInfo, hq, hi, hl, hst]
  · refine (rowIs_setCells_all ⟨c, hc, hn, hcc⟩ ((List.range n).map f) hlen).congr (fun i hi => ?_)
    simp [List.getD, hi]

/-- In the midst of 'add': low holds lo, high holds hi. -/
structure AR (w : World) (R : Rep) (g : GS) (bb : Nat) (lo hi : Nat → Nat) (wr : World) : Prop where
  gc : GC wr R g
  low : wr.rowIs R.lb 22 g.n (fun k => u64 (lo k))
  high : wr.rowIs R.hb 22 g.n (fun k => u64 (hi k))
  bel : Below R.base w wr
  bar : wr.heap[bb]? = w.heap[bb]?

theorem GC.nlh {w : World} {R : Rep} {g : GS} (h : GC w R g) : R.lb ≠ R.hb := fun e => by have h3 := h.r3; have h4 := h.r4; rw [e, h4] at h3; simp at h3

theorem AR.below {w : World} {R : Rep} {g : GS} {bb : Nat} {lo hi : Nat → Nat} {wr w' : World} (h : AR w R g bb lo hi wr) (hb : Below wr.heap.size wr w') (hbb : bb < w.heap.size) : AR w R g bb lo hi w' :=
  have hbase : R.base ≤ wr.heap.size := by have := h.gc.rbase R.gb (by rw [h.gc.r1]; simp); have := h.gc.lgb; omega
  { gc := h.gc.below hb, low := h.low.of_block (hb.block _ h.low.lt), high := h.high.of_block (hb.block _ h.high.lt), bel := h.bel.trans (hb.mono hbase), bar := (hb.block bb (Nat.lt_of_lt_of_le hbb h.bel.size)).trans h.bar }

theorem AR.setLow {w : World} {R : Rep} {g : GS} {bb : Nat} {lo hi lo' : Nat → Nat} {wr w' : World} (h : AR w R g bb lo hi wr) (hg : wr.grownBy w' (some R.lb)) (hl : w'.rowIs R.lb 22 g.n (fun k => u64 (lo' k)))
    (hbb : bb < w.heap.size) (hr : (R.role bb).1 = 0) : AR w R g bb lo' hi w' :=
  have hbase : R.base ≤ wr.heap.size := by have := h.gc.rbase R.gb (by rw [h.gc.r1]; simp); have := h.gc.lgb; omega
  { gc := h.gc.grown hg (by rw [h.gc.r3]; simp), low := hl, high := h.high.of_block (hg.block _ h.high.lt (by simpa using Ne.symm h.gc.nlh)),
    bel := h.bel.grown hg hbase (fun k hk => by cases hk; exact h.gc.rbase R.lb (by rw [h.gc.r3]; simp)),
    bar := (hg.block bb (Nat.lt_of_lt_of_le hbb h.bel.size) (fun e => by cases e; rw [h.gc.r3] at hr; simp at hr)).trans h.bar }

theorem AR.setHigh {w : World} {R : Rep} {g : GS} {bb : Nat} {lo hi hi' : Nat → Nat} {wr w' : World} (h : AR w R g bb lo hi wr) (hg : wr.grownBy w' (some R.hb)) (hl : w'.rowIs R.hb 22 g.n (fun k => u64 (hi' k)))
    (hbb : bb < w.heap.size) (hr : (R.role bb).1 = 0) : AR w R g bb lo hi' w' :=
  have hbase : R.base ≤ wr.heap.size := by have := h.gc.rbase R.gb (by rw [h.gc.r1]; simp); have := h.gc.lgb; omega
  { gc := h.gc.grown hg (by rw [h.gc.r4]; simp), high := hl, low := h.low.of_block (hg.block _ h.low.lt (by simpa using h.gc.nlh)),
    bel := h.bel.grown hg hbase (fun k hk => by cases hk; exact h.gc.rbase R.hb (by rw [h.gc.r4]; simp)),
    bar := (hg.block bb (Nat.lt_of_lt_of_le hbb h.bel.size) (fun e => by cases e; rw [h.gc.r4] at hr; simp at hr)).trans h.bar }

theorem lower_i {w : World} {R : Rep} {g : GS} (h : GC w R g) (ok : GOk g) {s q : Nat} {q' : Int} (e : q' = (q : Int)) (hs : s < g.n) (h1 : g.first s ≤ q) (h2 : q ≤ g.cnt s) :
    Calls Try.prog 32 #[.pointer (some ⟨R.gb, 0, none⟩), .agg #[.int .i64 s, .int .u64 q']] w fun e w' => e = .returned (lowV R g s q) ∧ Below w.heap.size w w' := by subst e; exact lower_g h ok hs h1 h2
theorem upper_i {w : World} {R : Rep} {g : GS} (h : GC w R g) (ok : GOk g) {s q : Nat} {q' : Int} (e : q' = (q : Int)) (hs : s < g.n) (h1 : g.first s ≤ q) (h2 : q ≤ g.cnt s) :
    Calls Try.prog 33 #[.pointer (some ⟨R.gb, 0, none⟩), .agg #[.int .i64 s, .int .u64 q']] w fun e w' => e = .returned (upV R g s q) ∧ Below w.heap.size w w' := by subst e; exact upper_g h ok hs h1 h2

theorem kept_t {w : World} {R : Rep} {g : GS} (h : GC w R g) {s : Nat} (hs : s < g.n) {q : Nat} (hq : g.first s ≤ q) :
    Calls Try.prog 37 #[.pointer (some ⟨R.gb, 0, none⟩), .agg #[.int .i64 s, .int .u64 q]] w fun e w' => e = .returned (.bool true) ∧ Below w.heap.size w w' :=
  (kept_g h hs q).mono fun e w' ⟨h1, h2⟩ => ⟨by rw [h1, decide_eq_true hq], h2⟩
theorem kept_f {w : World} {R : Rep} {g : GS} (h : GC w R g) {s : Nat} (hs : s < g.n) {q : Nat} (hq : ¬ g.first s ≤ q) :
    Calls Try.prog 37 #[.pointer (some ⟨R.gb, 0, none⟩), .agg #[.int .i64 s, .int .u64 q]] w fun e w' => e = .returned (.bool false) ∧ Below w.heap.size w w' :=
  (kept_g h hs q).mono fun e w' ⟨h1, h2⟩ => ⟨by rw [h1, decide_eq_false hq], h2⟩

section
variable {w : World} {R : Rep} {g : GS} {bb : Nat} {lo hi : Nat → Nat} {wr : World}

theorem copy_low (h : AR w R g bb lo hi wr) (ok : GOk g) {s q : Nat} (hs : s < g.n) (h1 : g.first s ≤ q) (h2 : q ≤ g.cnt s) (hbb : bb < w.heap.size) (hr : (R.role bb).1 = 0) (ty : TypeId) :
    ∃ w', (Builtin.copy_ #[24, 24] ty #[.slice (some ⟨R.lb, 0, none⟩) g.n g.n, lowV R g s q]).run Try.prog wr = .ok (goInt g.n) w' ∧ AR w R g bb (g.L s q) hi w' ∧ wr.grownBy w' (some R.lb) := by
  obtain ⟨w', a1, a2, a3⟩ := run_copy_rows (w := wr) ty R.lb g.n g.n (R.P s) (R.oP s + (q - g.first s) * g.n) (R.cP s - (q - g.first s) * g.n) _ _ h.low (h.gc.lowSeg ok hs h1 h2) (fun _ _ => rfl)
  exact ⟨w', a1, h.setLow a3 a2 hbb hr, a3⟩

theorem copy_up (h : AR w R g bb lo hi wr) (ok : GOk g) {s q : Nat} (hs : s < g.n) (h1 : g.first s ≤ q) (h2 : q ≤ g.cnt s) (hbb : bb < w.heap.size) (hr : (R.role bb).1 = 0) (ty : TypeId) :
    ∃ w', (Builtin.copy_ #[24, 24] ty #[.slice (some ⟨R.hb, 0, none⟩) g.n g.n, upV R g s q]).run Try.prog wr = .ok (goInt g.n) w' ∧ AR w R g bb lo (g.U s q) w' := by
  obtain ⟨b, o, c, e, hseg, _⟩ := h.gc.upSeg ok hs h1 h2
  obtain ⟨w', a1, a2, a3⟩ := run_copy_rows (w := wr) ty R.hb g.n g.n b o c _ _ h.high hseg (fun _ _ => rfl)
  exact ⟨w', by rw [e]; exact a1, h.setHigh a3 a2 hbb hr⟩

theorem raise_low (h : AR w R g bb lo hi wr) (ok : GOk g) {s q : Nat} (hs : s < g.n) (h1 : g.first s ≤ q) (h2 : q ≤ g.cnt s) (hbb : bb < w.heap.size) (hr : (R.role bb).1 = 0) :
    Calls Try.prog 40 #[.slice (some ⟨R.lb, 0, none⟩) g.n g.n, lowV R g s q] wr fun e w' => e = .returned (.tuple #[]) ∧ AR w R g bb (fun k => max (lo k) (g.L s q k)) hi w' ∧ wr.grownBy w' (some R.lb) := by
  have hP := h.gc.r6 s hs (ok.at_ hs h1 h2).1
  refine (raise_any R.lb (R.P s) (R.oP s + (q - g.first s) * g.n) g.n g.n (R.cP s - (q - g.first s) * g.n) lo (g.L s q) wr h.low (h.gc.lowSeg ok hs h1 h2) (fun e => by rw [e, h.gc.r3] at hP; simp at hP) ok.n2 (h.gc.pasts s hs (ok.at_ hs h1 h2).1).lt).mono ?_
  exact fun e w' ⟨a1, a2, a3⟩ => ⟨a1, h.setLow a3 a2 hbb hr, a3⟩

theorem raise_up (h : AR w R g bb lo hi wr) (ok : GOk g) {s q : Nat} (hs : s < g.n) (h1 : g.first s ≤ q) (h2 : q ≤ g.cnt s) (hbb : bb < w.heap.size) (hr : (R.role bb).1 = 0) :
    Calls Try.prog 40 #[.slice (some ⟨R.hb, 0, none⟩) g.n g.n, upV R g s q] wr fun e w' => e = .returned (.tuple #[]) ∧ AR w R g bb lo (fun k => max (hi k) (g.U s q k)) w' ∧ wr.grownBy w' (some R.hb) := by
  obtain ⟨b, o, c, e, hseg, r0, r3, r4⟩ := h.gc.upSeg ok hs h1 h2
  rw [e]
  refine (raise_any R.hb b o g.n g.n c hi (g.U s q) wr h.high hseg (fun e => by rw [e, h.gc.r4] at r4; simp at r4) ok.n2 (h.gc.rlt b r0)).mono ?_
  exact fun e w' ⟨a1, a2, a3⟩ => ⟨a1, h.setHigh a3 a2 hbb hr, a3⟩

end

/-- The entry (s, q) lies in block eb, none of the graph's. -/
structure ES (R : Rep) (eb s q : Nat) (wx : World) : Prop where
  c0 : wx.cell? ⟨eb, 0, none⟩ = some (.int .i64 s)
  c1 : wx.cell? ⟨eb, 1, none⟩ = some (.int .u64 q)
  r : (R.role eb).1 = 0

theorem ES.below {R : Rep} {eb s q : Nat} {wx w' : World} (h : ES R eb s q wx) (hb : Below wx.heap.size wx w') : ES R eb s q w' :=
  ⟨cell_keep (hb.block eb (World.block_lt_of_cell? _ _ h.c0)) h.c0, cell_keep (hb.block eb (World.block_lt_of_cell? _ _ h.c0)) h.c1, h.r⟩

theorem ES.grown {R : Rep} {eb s q : Nat} {wx w' : World} (h : ES R eb s q wx) {x : Nat} (hg : wx.grownBy w' (some x)) (hx : (R.role x).1 ≠ 0) : ES R eb s q w' :=
  have hne : some eb ≠ some x := fun e => by cases e; exact hx h.r
  ⟨cell_keep (hg.block eb (World.block_lt_of_cell? _ _ h.c0) hne) h.c0, cell_keep (hg.block eb (World.block_lt_of_cell? _ _ h.c0) hne) h.c1, h.r⟩

theorem ES.made {R : Rep} {g : GS} {wr : World} (h : GC wr R g) (s q : Nat) : ES R wr.heap.size s q (wr.alloc (.cells #[.int .i64 (s : Int), .int .u64 (q : Int)] 50)) :=
  ⟨by simp, by simp, by
    rcases Nat.eq_zero_or_pos (R.role wr.heap.size).1 with h0 | h0
    · exact h0
    · exact absurd (h.rlt wr.heap.size (by omega)) (by omega)⟩

def lo1 (g : GS) (S Q : Nat → Nat) (a : Nat → Nat) : Nat → Nat → Nat
  | 0 => a
  | i + 1 => if g.first (S i) ≤ Q i then fun k => max (lo1 g S Q a i k) (g.L (S i) (Q i) k) else lo1 g S Q a i
def hi1 (g : GS) (S Q : Nat → Nat) (a : Nat → Nat) : Nat → Nat → Nat
  | 0 => a
  | i + 1 => if g.first (S i) ≤ Q i then fun k => max (hi1 g S Q a i k) (g.U (S i) (Q i) k) else hi1 g S Q a i

def lh2 (g : GS) (S Q : Nat → Nat) (a b : Nat → Nat) : Nat → (Nat → Nat) × (Nat → Nat)
  | 0 => (a, b)
  | i + 1 => if g.first (S i) ≤ Q i ∨ Q i ≤ (lh2 g S Q a b i).1 (S i) then lh2 g S Q a b i
    else (upd (lh2 g S Q a b i).1 (S i) (Q i), upd (fun k => max ((lh2 g S Q a b i).2 k) (g.U (S i) (g.first (S i)) k)) (S i) (max ((lh2 g S Q a b i).2 (S i)) (Q i)))

theorem AR.two {w : World} {R : Rep} {g : GS} {bb : Nat} {lo hi : Nat → Nat} {w4 : World} (h : AR w R g bb lo hi w4) (hbb : bb < w.heap.size) (hr : (R.role bb).1 = 0) (s x y : Nat) :
    AR w R g bb (upd lo s y) (upd hi s x) ((w4.setCell ⟨R.hb, s, none⟩ (.int .u64 (x : Int))).setCell ⟨R.lb, s, none⟩ (.int .u64 (y : Int))) := by
  have h1 : AR w R g bb lo (upd hi s x) (w4.setCell ⟨R.hb, s, none⟩ (.int .u64 (x : Int))) :=
    h.setHigh (grownBy_set (World.grownBy.refl _ _) _ _) ((h.high.set s _).congr (fun k hk => by
      show (if k = s then Value.int .u64 (x : Int) else u64 (hi k)) = u64 (if k = s then x else hi k)
      split <;> rfl)) hbb hr
  exact h1.setLow (grownBy_set (World.grownBy.refl _ _) _ _) ((h1.low.set s _).congr (fun k hk => by
      show (if k = s then Value.int .u64 (y : Int) else u64 (lo k)) = u64 (if k = s then y else lo k)
      split <;> rfl)) hbb hr

theorem AR.two' {w : World} {R : Rep} {g : GS} {bb : Nat} {lo hi : Nat → Nat} {w4 : World} (h : AR w R g bb lo hi w4) (hbb : bb < w.heap.size) (hr : (R.role bb).1 = 0) (s x y : Nat) :
    AR w R g bb (upd lo s y) (upd hi s x) ((w4.setCell ⟨R.lb, s, none⟩ (.int .u64 (y : Int))).setCell ⟨R.hb, s, none⟩ (.int .u64 (x : Int))) := by
  have h1 : AR w R g bb (upd lo s y) hi (w4.setCell ⟨R.lb, s, none⟩ (.int .u64 (y : Int))) :=
    h.setLow (grownBy_set (World.grownBy.refl _ _) _ _) ((h.low.set s _).congr (fun k hk => by
      show (if k = s then Value.int .u64 (y : Int) else u64 (lo k)) = u64 (if k = s then y else lo k)
      split <;> rfl)) hbb hr
  exact h1.setHigh (grownBy_set (World.grownBy.refl _ _) _ _) ((h1.high.set s _).congr (fun k hk => by
      show (if k = s then Value.int .u64 (x : Int) else u64 (hi k)) = u64 (if k = s then x else hi k)
      split <;> rfl)) hbb hr

def lo0 (g : GS) (j seq : Nat) : Nat → Nat := fun k => if 1 < seq then g.L j (seq - 1) k else 0
def hi0 (g : GS) (j seq : Nat) : Nat → Nat := fun k => if 1 < seq then g.U j (seq - 1) k else 0

/-- Behind the two appends: the message is laid. -/
structure PR (w : World) (R : Rep) (g1 : GS) (lo hi : Nat → Nat) (wr : World) (R1 : Rep) : Prop where
  gc : GC wr R1 g1
  rep : SameRep R R1
  low : wr.rowIs R.lb 22 g1.n (fun k => u64 (lo k))
  high : wr.rowIs R.hb 22 g1.n (fun k => u64 (hi k))
  bel : Below R.base w wr

theorem pr_of {w : World} {R : Rep} {g : GS} {bb : Nat} {lo hi : Nat → Nat} {w0 wB w2 w3 w4 : World} (A0 : AR w R g bb lo hi w0) (ok : GOk g) {j : Nat} (hj : j < g.n) {ln b1 o1 c1 b2 o2 c2 : Nat}
    (hwB : wB = w0.setCell ⟨R.gb, 4, none⟩ (.int .u64 ((g.del : Int) + 1))) (hln : ln = (g.cnt j + 1 - g.first j) * g.n)
    (hA1 : App w2 22 b1 o1 (ln + g.n) c1 (fun t => if t < ln then u64 (g.L j (g.first j + t / g.n) (t % g.n)) else ((List.range g.n).map (fun k => u64 (lo k))).getD (t - ln) undef))
    (own1 : (pv R g j).ownBlock = some b1 ∨ b1 = wB.heap.size) (hg1 : wB.grownBy w2 (pv R g j).ownBlock)
    (hw3 : Below w2.heap.size (w2.setCell ⟨R.cb, j * 3 + 1, none⟩ (.slice (some ⟨b1, o1, none⟩) (ln + g.n) c1)) w3)
    (hA2 : App w4 22 b2 o2 (g.cnt j + 1 - g.first j + 1) c2 (fun t => if t < g.cnt j + 1 - g.first j then u64 (g.dn j (g.first j + t)) else ([u64 (g.del + 1)] : List Value).getD (t - (g.cnt j + 1 - g.first j)) undef))
    (own2 : (av R g j).ownBlock = some b2 ∨ b2 = w3.heap.size) (hg2 : w3.grownBy w4 (av R g j).ownBlock) :
    ∃ R1, PR w R (newG g j lo lo) lo hi (w4.setCell ⟨R.cb, j * 3 + 2, none⟩ (.slice (some ⟨b2, o2, none⟩) (g.cnt j + 1 - g.first j + 1) c2)) R1 ∧ R1.M j (g.cnt j + 1) = none := by
  subst hln
  have h := A0.gc
  have s1 : wB.heap.size = w0.heap.size := by rw [hwB]; simp
  obtain ⟨p1, p2, p3, p4⟩ := gc_push (w0 := w0) (w1 := wB) (w2 := w2) (w3 := w3) (w4 := w4) (w5 := w4.setCell ⟨R.cb, j * 3 + 2, none⟩ (.slice (some ⟨b2, o2, none⟩) (g.cnt j + 1 - g.first j + 1) c2)) (lo := lo) h ok hj
    (by rw [hwB]; rfl) (hA1.congr (fun t ht => by
      by_cases e : t < (g.cnt j + 1 - g.first j) * g.n
      · rw [if_pos e, if_pos e]
      · have : t - (g.cnt j + 1 - g.first j) * g.n < g.n := by omega
        rw [if_neg e, if_neg e]; simp [List.getD, this])) own1 hg1
    ⟨_, rfl, ⟨hw3.os, hw3.tape, hw3.output, hw3.size, fun k hk _ => hw3.block k (by simpa using hk)⟩⟩
    (hA2.congr (fun t ht => by
      by_cases e : t < g.cnt j + 1 - g.first j
      · rw [if_pos e, if_pos e]
      · rw [if_neg e, if_neg e, show t - (g.cnt j + 1 - g.first j) = 0 from by omega]; rfl)) own2 hg2 rfl
  have lowb := p2 R.lb A0.low.lt (by rw [h.r3]; simp) (by rw [h.r3]; simp) (by rw [h.r3]; simp) (by rw [h.r3]; simp)
  have highb := p2 R.hb A0.high.lt (by rw [h.r4]; simp) (by rw [h.r4]; simp) (by rw [h.r4]; simp) (by rw [h.r4]; simp)
  have hbase : R.base ≤ w0.heap.size := by have := h.rbase R.gb (by rw [h.r1]; simp); have := h.lgb; omega
  have gcb : R.base ≤ R.cb := h.rbase R.cb (by rw [h.r2]; simp)
  have ggb : R.base ≤ R.gb := h.rbase R.gb (by rw [h.r1]; simp)
  have q1 : Below R.base w wB := by rw [hwB]; exact A0.bel.setCell (by exact ggb) _
  have q2 : Below R.base w w2 := q1.grown hg1 (by omega) (fun k hk => by
    unfold pv at hk
    split at hk
    · simp [Value.ownBlock] at hk
    · rename_i h0
      simp [Value.ownBlock] at hk
      subst hk
      exact h.rbase _ (by rw [h.r6 j hj h0]; simp))
  have q3 : Below R.base w w3 := (q2.setCell (by exact gcb) _).trans (hw3.mono (by have := hg1.size; omega))
  have q4 : Below R.base w w4 := q3.grown hg2 (by have := hg1.size; have := hw3.size; simp at this; omega) (fun k hk => by
    unfold av at hk
    split at hk
    · simp [Value.ownBlock] at hk
    · rename_i h0
      simp [Value.ownBlock] at hk
      subst hk
      exact h.rbase _ (by rw [h.r7 j hj h0]; simp))
  exact ⟨_, { gc := p1, rep := ⟨rfl, rfl, rfl, rfl, rfl, rfl⟩, low := A0.low.of_block lowb, high := A0.high.of_block highb, bel := q4.setCell (by exact gcb) _ }, h.mnew j _ (Nat.lt_succ_self _)⟩

theorem PR.draw {w : World} {R : Rep} {g1 : GS} {lo hi : Nat → Nat} {wr : World} {R1 : Rep} (h : PR w R g1 lo hi wr R1) (m : Nat) : PR w R g1 lo hi (wr.drewN m) R1 :=
  { gc := h.gc.keep (Nat.le_refl _) (fun _ _ _ _ => rfl), rep := h.rep, low := h.low, high := h.high, bel := below_drewN h.bel m }

theorem PR.same {w : World} {R : Rep} {g : GS} {j : Nat} {lo hi : Nat → Nat} {wr : World} {R1 : Rep} (h : PR w R (newG g j lo lo) lo hi wr R1) (e : ∀ k, k < g.n → lo k = hi k) : PR w R (newG g j lo hi) lo hi wr R1 :=
  { gc := h.gc.congrU (U' := (newG g j lo hi).U) (fun s q k hk => by
      show (if s = j ∧ q = g.cnt j + 1 then lo else g.U s q) k = (if s = j ∧ q = g.cnt j + 1 then hi else g.U s q) k
      split
      · exact e k hk
      · rfl)
    rep := h.rep, low := h.low, high := h.high, bel := h.bel }

/-- Behind 'add': what the state is, and that all is in order again. -/
def Added (w : World) (R : Rep) (g1 : GS) (w' : World) : Prop :=
  ∃ F x R', GC w' R' (fg g1 F x) ∧ GOk (fg g1 F x) ∧ Fgts g1 F x ∧ (∀ i, i < g1.n → Done (fg g1 F x) i) ∧ SameRep R R' ∧ Below R.base w w' ∧
    (∃ f, w'.rowIs R.lb 22 g1.n f) ∧ (∃ f, w'.rowIs R.hb 22 g1.n f)

theorem added {w : World} {R : Rep} {g1 : GS} {lo hi : Nat → Nat} {wr : World} {R1 : Rep} {w' : World} (hP : PR w R g1 lo hi wr R1) (hF : FRel g1 R1 wr g1.n w') : Added w R g1 w' := by
  obtain ⟨F, x, R', hs⟩ := hF
  have e := hP.rep
  have l1 := hs.lh.1
  have l2 := hs.lh.2
  have b := hs.bel
  rw [e.lb] at l1
  rw [e.hb] at l2
  rw [e.base] at b
  exact ⟨F, x, R', hs.gc, hs.ok, hs.fs, hs.dones, ⟨hs.rep.gb.trans e.gb, hs.rep.cb.trans e.cb, hs.rep.mb.trans e.mb, hs.rep.lb.trans e.lb, hs.rep.hb.trans e.hb, hs.rep.base.trans e.base⟩, hP.bel.trans b,
    ⟨_, hP.low.of_block l1⟩, ⟨_, hP.high.of_block l2⟩⟩

theorem MapIs.storeRaw {w : World} {b : Nat} {M : Nat → Nat → Option Value} (h : MapIs w b M) {s q : Nat} (hs : s < 9223372036854775808) (hq : q < 18446744073709551616) (hnew : M s q = none) (v : Value) :
    ∃ w', (Instr.mapUpdate 56 (.map (some b)) (.agg #[.int .i64 s, .int .u64 q]) v).run Try.prog w = .ok () w' ∧ MapIs w' b (fun s' q' => if s' = s ∧ q' = q then some v else M s' q') ∧ w.grownBy w' (some b) := h.store hs hq hnew v

/-- Behind the map's store: the upper bound is laid. -/
theorem PR.mapped {w : World} {R : Rep} {g : GS} {j seq : Nat} {lo hi : Nat → Nat} {wr : World} {R1 : Rep} (h : PR w R (newG g j lo lo) lo hi wr R1) (hseq : seq = g.cnt j + 1) {w7 w8 : World} {ub uo uc : Nat}
    (hb : Below wr.heap.size wr w7) (hA : App w7 22 ub uo g.n uc (fun k => u64 (hi k))) (hub : wr.heap.size ≤ ub)
    (hM : MapIs w8 R.mb (fun s' q' => if s' = j ∧ q' = seq then some (.slice (some ⟨ub, uo, none⟩) g.n uc) else R1.M s' q')) (hg : w7.grownBy w8 (some R.mb)) : ∃ R2, PR w R (newG g j lo hi) lo hi w8 R2 := by
  subst hseq
  have hm := h.rep.mb
  rw [← hm] at hM hg
  have p := gc_setUp (w0 := wr) (w1 := w7) (w2 := w8) (j := j) (q := g.cnt j + 1) (hi := hi) h.gc (upd_same _ _ _).symm hb hA hub hA.lt hM hg
  have r5 := h.gc.r5
  have r3 := h.gc.r3
  have r4 := h.gc.r4
  rw [h.rep.lb] at r3
  rw [h.rep.hb] at r4
  have hbase : R.base ≤ wr.heap.size := by have := h.gc.rbase R1.gb (by rw [h.gc.r1]; simp); have := h.gc.lgb; rw [h.rep.base] at *; omega
  have stay : ∀ b, b < wr.heap.size → b ≠ R1.mb → w8.heap[b]? = wr.heap[b]? := fun b hb' hne => by
    rw [hg.block b (Nat.lt_of_lt_of_le hb' hb.size) (by simpa using hne), hb.block b hb']
  refine ⟨_, { gc := p.congrU (U' := (newG g j lo hi).U) (fun s q k hk => ?_), rep := ⟨h.rep.gb, h.rep.cb, h.rep.mb, h.rep.lb, h.rep.hb, h.rep.base⟩
               low := h.low.of_block (stay R.lb h.low.lt (fun e => by rw [e, r5] at r3; simp at r3)), high := h.high.of_block (stay R.hb h.high.lt (fun e => by rw [e, r5] at r4; simp at r4))
               bel := (h.bel.trans (hb.mono hbase)).grown hg (Nat.le_trans hbase hb.size) (fun k hk => by cases hk; have := h.gc.rbase R1.mb (by rw [r5]; simp); rwa [h.rep.base] at this) }⟩
  show (if s = j ∧ q = g.cnt j + 1 then hi else if s = j ∧ q = g.cnt j + 1 then lo else g.U s q) k = (if s = j ∧ q = g.cnt j + 1 then hi else g.U s q) k
  split <;> rfl

end Go.Proofs.Qxb6605249a

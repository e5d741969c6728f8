/-
  THE GRAPH IN MEMORY: what a world must hold for a plain state; the readers' contracts over it.
-/
import Derived.Test.Qxb6605249aReads
set_option linter.unusedVariables false
set_option linter.unusedSimpArgs false
namespace Go.Proofs.Qxb6605249a
open Go.RowKit

/-- A state of the graph, plainly. -/
structure GS where
  n : Nat
  keep : Nat
  first : Nat → Nat
  cnt : Nat → Nat
  L : Nat → Nat → Nat → Nat
  U : Nat → Nat → Nat → Nat
  dn : Nat → Nat → Nat
  del : Nat
  fgt : Nat

/-- Where it lies. role: what each block is for: 1 the struct, 2 the chains, 3 low, 4 high, 5 the map, (6, j) the pasts of j, (7, j) the delivery numbers of j, 8 an upper bound's row; 0 none of ours. -/
structure Rep where
  base : Nat
  gb : Nat
  cb : Nat
  lb : Nat
  hb : Nat
  mb : Nat
  P : Nat → Nat
  oP : Nat → Nat
  cP : Nat → Nat
  A : Nat → Nat
  oA : Nat → Nat
  cA : Nat → Nat
  M : Nat → Nat → Option Value
  role : Nat → Nat × Nat

structure GOk (g : GS) : Prop where
  n1 : 1 ≤ g.n
  n2 : g.n ≤ 4096
  f1 : ∀ j, j < g.n → 1 ≤ g.first j
  f2 : ∀ j, j < g.n → g.cnt j ≠ 0 → g.first j ≤ g.cnt j
  f3 : ∀ j, j < g.n → g.cnt j = 0 → g.first j = 1
  c1 : ∀ j, j < g.n → g.cnt j ≤ g.del
  d1 : g.del ≤ 4096
  d2 : g.n * g.del ≤ 4194304
  t1 : ∀ j, j < g.n → ∀ q, g.first j ≤ q → q ≤ g.cnt j → g.dn j q ≤ g.del

/-- Block b is a row of N cells of type t, none frozen. -/
def Blk (w : World) (b : Nat) (t : TypeId) (N : Nat) : Prop := ∃ c : Array Value, w.heap[b]? = some (.cells c t (0, 0)) ∧ c.size = N

theorem Blk.of_block {w w' : World} {b : Nat} {t : TypeId} {N : Nat} (h : Blk w b t N) (e : w'.heap[b]? = w.heap[b]?) : Blk w' b t N := by
  obtain ⟨c, hc, hn⟩ := h; exact ⟨c, e.trans hc, hn⟩

theorem Blk.lt {w : World} {b : Nat} {t : TypeId} {N : Nat} (h : Blk w b t N) : b < w.heap.size := by
  obtain ⟨c, hc, _⟩ := h; exact (Array.getElem?_eq_some_iff.1 hc).1

theorem Blk.frozen {w : World} {b : Nat} {t : TypeId} {N : Nat} (h : Blk w b t N) (i : Nat) : w.frozen? ⟨b, i, none⟩ = false := by
  obtain ⟨c, hc, _⟩ := h; exact frozen_of_row w b i c t hc

theorem Blk.set {w : World} {b : Nat} {t : TypeId} {N : Nat} (h : Blk w b t N) (i : Nat) (v : Value) : Blk (w.setCell ⟨b, i, none⟩ v) b t N := by
  obtain ⟨c, hc, hn⟩ := h; exact ⟨_, heap_setCell_same w b i c t v hc, by simpa using hn⟩

def pv (R : Rep) (g : GS) (j : Nat) : Value := if g.cnt j = 0 then .slice none 0 0 else .slice (some ⟨R.P j, R.oP j, none⟩) ((g.cnt j + 1 - g.first j) * g.n) (R.cP j)
def av (R : Rep) (g : GS) (j : Nat) : Value := if g.cnt j = 0 then .slice none 0 0 else .slice (some ⟨R.A j, R.oA j, none⟩) (g.cnt j + 1 - g.first j) (R.cA j)
def u64 (x : Nat) : Value := .int .u64 x

/-- The graph lies in w (but for what low and high hold). -/
structure GC (w : World) (R : Rep) (g : GS) : Prop where
  gblk : Blk w R.gb 58 8
  g0 : w.cell? ⟨R.gb, 0, none⟩ = some (.int .i64 g.n)
  g1 : w.cell? ⟨R.gb, 1, none⟩ = some (.int .u64 g.keep)
  g2 : w.cell? ⟨R.gb, 2, none⟩ = some (.slice (some ⟨R.cb, 0, none⟩) g.n g.n)
  g3 : w.cell? ⟨R.gb, 3, none⟩ = some (.map (some R.mb))
  g4 : w.cell? ⟨R.gb, 4, none⟩ = some (.int .u64 g.del)
  g5 : w.cell? ⟨R.gb, 5, none⟩ = some (.int .u64 g.fgt)
  g6 : w.cell? ⟨R.gb, 6, none⟩ = some (.slice (some ⟨R.lb, 0, none⟩) g.n g.n)
  g7 : w.cell? ⟨R.gb, 7, none⟩ = some (.slice (some ⟨R.hb, 0, none⟩) g.n g.n)
  cblk : Blk w R.cb 55 (g.n * 3)
  c0 : ∀ j, j < g.n → w.cell? ⟨R.cb, j * 3, none⟩ = some (.int .u64 (g.first j))
  c1 : ∀ j, j < g.n → w.cell? ⟨R.cb, j * 3 + 1, none⟩ = some (pv R g j)
  c2 : ∀ j, j < g.n → w.cell? ⟨R.cb, j * 3 + 2, none⟩ = some (av R g j)
  pasts : ∀ j, j < g.n → g.cnt j ≠ 0 → App w 22 (R.P j) (R.oP j) ((g.cnt j + 1 - g.first j) * g.n) (R.cP j) (fun i => u64 (g.L j (g.first j + i / g.n) (i % g.n)))
  ats : ∀ j, j < g.n → g.cnt j ≠ 0 → App w 22 (R.A j) (R.oA j) (g.cnt j + 1 - g.first j) (R.cA j) (fun i => u64 (g.dn j (g.first j + i)))
  map : MapIs w R.mb R.M
  ups : ∀ j, j < g.n → ∀ q, g.first j ≤ q → q ≤ g.cnt j → (R.M j q = none ∧ ∀ k, k < g.n → g.U j q k = g.L j q k) ∨
    ∃ b o c, R.M j q = some (.slice (some ⟨b, o, none⟩) g.n c) ∧ (R.role b).1 = 8 ∧ Seg w b o g.n (fun k => u64 (g.U j q k))
  mnew : ∀ j q, g.cnt j < q → R.M j q = none
  r1 : R.role R.gb = (1, 0)
  r2 : R.role R.cb = (2, 0)
  r3 : R.role R.lb = (3, 0)
  r4 : R.role R.hb = (4, 0)
  r5 : R.role R.mb = (5, 0)
  r6 : ∀ j, j < g.n → g.cnt j ≠ 0 → R.role (R.P j) = (6, j)
  r7 : ∀ j, j < g.n → g.cnt j ≠ 0 → R.role (R.A j) = (7, j)
  rlt : ∀ b, (R.role b).1 ≠ 0 → b < w.heap.size
  rbase : ∀ b, (R.role b).1 ≠ 0 → R.base ≤ b

theorem cell_keep {w w' : World} {b o : Nat} {v : Value} (e : w'.heap[b]? = w.heap[b]?) (h : w.cell? ⟨b, o, none⟩ = some v) : w'.cell? ⟨b, o, none⟩ = some v := by
  rw [World.cell?_of_block (w := w) (w' := w') (a := ⟨b, o, none⟩) e]; exact h

/-- What keeps the core's blocks keeps the graph. -/
theorem GC.keep {w w' : World} {R : Rep} {g : GS} (h : GC w R g) (hs : w.heap.size ≤ w'.heap.size)
    (hk : ∀ b, (R.role b).1 ≠ 0 → (R.role b).1 ≠ 3 → (R.role b).1 ≠ 4 → w'.heap[b]? = w.heap[b]?) : GC w' R g := by
  have eg := hk R.gb (by rw [h.r1]; simp) (by rw [h.r1]; simp) (by rw [h.r1]; simp)
  have ec := hk R.cb (by rw [h.r2]; simp) (by rw [h.r2]; simp) (by rw [h.r2]; simp)
  have em := hk R.mb (by rw [h.r5]; simp) (by rw [h.r5]; simp) (by rw [h.r5]; simp)
  exact { gblk := h.gblk.of_block eg, g0 := cell_keep eg h.g0, g1 := cell_keep eg h.g1, g2 := cell_keep eg h.g2, g3 := cell_keep eg h.g3, g4 := cell_keep eg h.g4, g5 := cell_keep eg h.g5,
          g6 := cell_keep eg h.g6, g7 := cell_keep eg h.g7, cblk := h.cblk.of_block ec, c0 := fun j hj => cell_keep ec (h.c0 j hj), c1 := fun j hj => cell_keep ec (h.c1 j hj), c2 := fun j hj => cell_keep ec (h.c2 j hj),
          pasts := fun j hj hc => (h.pasts j hj hc).of_block (hk _ (by rw [h.r6 j hj hc]; simp) (by rw [h.r6 j hj hc]; simp) (by rw [h.r6 j hj hc]; simp)),
          ats := fun j hj hc => (h.ats j hj hc).of_block (hk _ (by rw [h.r7 j hj hc]; simp) (by rw [h.r7 j hj hc]; simp) (by rw [h.r7 j hj hc]; simp)),
          map := h.map.of_block em,
          ups := fun j hj q h1 h2 => by
            rcases h.ups j hj q h1 h2 with h3 | ⟨b, o, c, h4, h5, h6⟩
            · exact .inl h3
            · exact .inr ⟨b, o, c, h4, h5, h6.of_block (hk b (by omega) (by omega) (by omega))⟩,
          mnew := h.mnew, r1 := h.r1, r2 := h.r2, r3 := h.r3, r4 := h.r4, r5 := h.r5, r6 := h.r6, r7 := h.r7, rlt := fun b hb => Nat.lt_of_lt_of_le (h.rlt b hb) hs, rbase := h.rbase }

theorem GC.below {w w' : World} {R : Rep} {g : GS} (h : GC w R g) (hb : Below w.heap.size w w') : GC w' R g := h.keep hb.size fun b h0 _ _ => hb.block b (h.rlt b h0)

theorem GC.grown {w w' : World} {R : Rep} {g : GS} (h : GC w R g) {x : Nat} (hg : w.grownBy w' (some x)) (hx : (R.role x).1 = 0 ∨ (R.role x).1 = 3 ∨ (R.role x).1 = 4) : GC w' R g :=
  h.keep hg.size fun b h0 h3 h4 => hg.block b (h.rlt b h0) (fun e => by cases e; omega)

theorem GC.lgb {w : World} {R : Rep} {g : GS} (h : GC w R g) : R.gb < w.heap.size := h.gblk.lt
theorem GC.lcb {w : World} {R : Rep} {g : GS} (h : GC w R g) : R.cb < w.heap.size := h.cblk.lt

/-- What 'lower' hands back. -/
def lowV (R : Rep) (g : GS) (s q : Nat) : Value := .slice (some ⟨R.P s, R.oP s + (q - g.first s) * g.n, none⟩) g.n (R.cP s - (q - g.first s) * g.n)
def upV (R : Rep) (g : GS) (s q : Nat) : Value := (R.M s q).getD (lowV R g s q)

theorem idx_le {m c n : Nat} (h : m + 1 ≤ c) : m * n + n ≤ c * n := by
  have := Nat.mul_le_mul_right n h
  rw [Nat.add_mul] at this; omega

/-- The bounds at a message that is kept. -/
theorem GOk.at_ {g : GS} (ok : GOk g) {s q : Nat} (hs : s < g.n) (h1 : g.first s ≤ q) (h2 : q ≤ g.cnt s) :
    g.cnt s ≠ 0 ∧ (q - g.first s) * g.n + g.n ≤ (g.cnt s + 1 - g.first s) * g.n ∧ (q - g.first s) * g.n ≤ 4194304 ∧ g.first s ≤ 4096 ∧ q - g.first s ≤ 4096 := by
  have a1 := ok.f1 s hs
  have a2 := ok.c1 s hs
  have a3 := ok.d1
  have a4 := ok.d2
  refine ⟨by omega, idx_le (by omega), ?_, by omega, by omega⟩
  have : (q - g.first s) * g.n ≤ g.del * g.n := Nat.mul_le_mul_right _ (by omega)
  rw [Nat.mul_comm g.del] at this
  omega

theorem GC.lowSeg {w : World} {R : Rep} {g : GS} (h : GC w R g) (ok : GOk g) {s q : Nat} (hs : s < g.n) (h1 : g.first s ≤ q) (h2 : q ≤ g.cnt s) :
    Seg w (R.P s) (R.oP s + (q - g.first s) * g.n) g.n (fun k => u64 (g.L s q k)) := fun k hk => by
  obtain ⟨b1, b2, _⟩ := ok.at_ hs h1 h2
  have := (h.pasts s hs b1).seg ((q - g.first s) * g.n + k) (by omega)
  rw [Nat.add_assoc, this]
  have e1 : ((q - g.first s) * g.n + k) / g.n = q - g.first s := by
    rw [Nat.add_comm, Nat.add_mul_div_right _ _ (by omega), Nat.div_eq_of_lt hk, Nat.zero_add]
  have e2 : ((q - g.first s) * g.n + k) % g.n = k := by
    rw [Nat.add_comm, Nat.add_mul_mod_self_right, Nat.mod_eq_of_lt hk]
  rw [e1, e2, show g.first s + (q - g.first s) = q from by omega]

/-- What 'upperOf' hands back lies in the core. -/
theorem GC.upSeg {w : World} {R : Rep} {g : GS} (h : GC w R g) (ok : GOk g) {s q : Nat} (hs : s < g.n) (h1 : g.first s ≤ q) (h2 : q ≤ g.cnt s) :
    ∃ b o c, upV R g s q = .slice (some ⟨b, o, none⟩) g.n c ∧ Seg w b o g.n (fun k => u64 (g.U s q k)) ∧ (R.role b).1 ≠ 0 ∧ (R.role b).1 ≠ 3 ∧ (R.role b).1 ≠ 4 := by
  rcases h.ups s hs q h1 h2 with ⟨h3, h4⟩ | ⟨b, o, c, h4, h5, h6⟩
  · refine ⟨_, _, _, by rw [upV, h3]; rfl, (h.lowSeg ok hs h1 h2).congr (fun k hk => by rw [h4 k hk]), ?_⟩
    rw [h.r6 s hs (ok.at_ hs h1 h2).1]; simp
  · exact ⟨b, o, c, by rw [upV, h4]; rfl, h6, by omega, by omega, by omega⟩

theorem kept_g {w : World} {R : Rep} {g : GS} (h : GC w R g) {s : Nat} (hs : s < g.n) (q : Nat) :
    Calls Try.prog 37 #[.pointer (some ⟨R.gb, 0, none⟩), .agg #[.int .i64 s, .int .u64 q]] w fun e w' => e = .returned (.bool (decide (g.first s ≤ q))) ∧ Below w.heap.size w w' :=
  (kept_any R.gb R.cb g.n s q (g.first s) w h.g2 hs (h.c0 s hs) h.lgb h.lcb).mono fun e w' ⟨h1, h2⟩ => ⟨by rw [h1]; congr 2; simp, h2⟩

theorem lower_g {w : World} {R : Rep} {g : GS} (h : GC w R g) (ok : GOk g) {s q : Nat} (hs : s < g.n) (h1 : g.first s ≤ q) (h2 : q ≤ g.cnt s) :
    Calls Try.prog 32 #[.pointer (some ⟨R.gb, 0, none⟩), .agg #[.int .i64 s, .int .u64 q]] w fun e w' => e = .returned (lowV R g s q) ∧ Below w.heap.size w w' := by
  obtain ⟨b1, b2, b3, b4, b5⟩ := ok.at_ hs h1 h2
  have hc1 := h.c1 s hs
  rw [pv, if_neg b1] at hc1
  have := lower_any R.gb R.cb g.n s (q - g.first s) (g.first s) _ (R.P s) (R.oP s) _ (R.cP s) w h.g0 h.g2 hs (h.c0 s hs) hc1 rfl b2 (h.pasts s hs b1).le ok.n1 ok.n2 b3 b4 b5 h.lgb h.lcb
  rw [show g.first s + (q - g.first s) = q from by omega] at this
  exact this

theorem upper_g {w : World} {R : Rep} {g : GS} (h : GC w R g) (ok : GOk g) {s q : Nat} (hs : s < g.n) (h1 : g.first s ≤ q) (h2 : q ≤ g.cnt s) :
    Calls Try.prog 33 #[.pointer (some ⟨R.gb, 0, none⟩), .agg #[.int .i64 s, .int .u64 q]] w fun e w' => e = .returned (upV R g s q) ∧ Below w.heap.size w w' := by
  obtain ⟨b1, b2, b3, b4, b5⟩ := ok.at_ hs h1 h2
  have n2 := ok.n2
  have hc1 := h.c1 s hs
  rw [pv, if_neg b1] at hc1
  cases hm : R.M s q with
  | some v =>
    have := upper_some R.gb R.mb s q w R.M v h.g3 h.map hm (by omega) (by omega) h.lgb
    rw [upV, hm]; exact this
  | none =>
    have := upper_none R.gb R.cb R.mb g.n s (q - g.first s) (g.first s) _ (R.P s) (R.oP s) _ (R.cP s) w R.M h.g3 h.map (by rw [show g.first s + (q - g.first s) = q from by omega]; exact hm) h.g0 h.g2 hs (h.c0 s hs) hc1 rfl b2 (h.pasts s hs b1).le ok.n1 ok.n2 b3 b4 b5 h.lgb h.lcb
    rw [show g.first s + (q - g.first s) = q from by omega] at this
    rw [upV, hm]; exact this

theorem at_g {w : World} {R : Rep} {g : GS} (h : GC w R g) (ok : GOk g) {s q : Nat} (hs : s < g.n) (h1 : g.first s ≤ q) (h2 : q ≤ g.cnt s) :
    Calls Try.prog 39 #[.pointer (some ⟨R.gb, 0, none⟩), .agg #[.int .i64 s, .int .u64 q]] w fun e w' => e = .returned (u64 (g.dn s q)) ∧ Below w.heap.size w w' := by
  obtain ⟨b1, b2, b3, b4, b5⟩ := ok.at_ hs h1 h2
  have hc2 := h.c2 s hs
  rw [av, if_neg b1] at hc2
  have ha := h.ats s hs b1
  have hx := ha.seg (q - g.first s) (by omega)
  rw [show g.first s + (q - g.first s) = q from by omega] at hx
  have := at_any R.gb R.cb g.n s (q - g.first s) (g.first s) (R.A s) (R.oA s) _ (R.cA s) _ w h.g2 hs (h.c0 s hs) hc2 (by omega) hx b4 b5 h.lgb h.lcb ha.lt
  rw [show g.first s + (q - g.first s) = q from by omega] at this
  exact this

theorem oldest_g {w : World} {R : Rep} {g : GS} (h : GC w R g) {s : Nat} (hs : s < g.n) :
    Calls Try.prog 38 #[.pointer (some ⟨R.gb, 0, none⟩), .int .i64 s] w fun e w' => e = .returned (.agg #[.int .i64 s, .int .u64 (g.first s)]) ∧ Below w.heap.size w w' :=
  oldest_any R.gb R.cb g.n s (g.first s) w h.g2 hs (h.c0 s hs) h.lgb h.lcb

end Go.Proofs.Qxb6605249a

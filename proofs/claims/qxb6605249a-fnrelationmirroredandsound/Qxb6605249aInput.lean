/-
  THE SCRIPT AS IT LIES IN MEMORY, WHAT A VALID ONE IS, AND THE STATES THAT BUILDING GOES THROUGH.
-/
import Derived.Test.Qxb6605249aZZAdd
set_option linter.unusedVariables false
set_option linter.unusedSimpArgs false
namespace Go.Proofs.Qxb6605249a
open Go.RowKit

/-- Where the four slices lie (each of L elements) and what they hold. -/
structure Inp where
  L : Nat
  jb : Nat
  jo : Nat
  jc : Nat
  sb : Nat
  so : Nat
  sc : Nat
  bb : Nat
  bo : Nat
  bc : Nat
  qb : Nat
  qo : Nat
  qc : Nat
  bA : Nat → Option Addr
  bL : Nat → Nat
  bC : Nat → Nat
  qA : Nat → Option Addr
  qL : Nat → Nat
  qC : Nat → Nat

def Inp.js (I : Inp) : Value := .slice (some ⟨I.jb, I.jo, none⟩) I.L I.jc
def Inp.seqs (I : Inp) : Value := .slice (some ⟨I.sb, I.so, none⟩) I.L I.sc
def Inp.bs (I : Inp) : Value := .slice (some ⟨I.bb, I.bo, none⟩) I.L I.bc
def Inp.bq (I : Inp) : Value := .slice (some ⟨I.qb, I.qo, none⟩) I.L I.qc

/-- They hold J, S, X, Y; all of it lies below block B. -/
structure In (w : World) (B : Nat) (I : Inp) (J : Nat → Int) (S : Nat → Nat) (X : Nat → Nat → Int) (Y : Nat → Nat → Nat) : Prop where
  bJ : I.jb < B
  bS : I.sb < B
  bB : I.bb < B
  bQ : I.qb < B
  cJ : ∀ i, i < I.L → w.cell? ⟨I.jb, I.jo + i, none⟩ = some (.int .i64 (J i))
  cS : ∀ i, i < I.L → w.cell? ⟨I.sb, I.so + i, none⟩ = some (.int .u64 (S i))
  cB : ∀ i, i < I.L → w.cell? ⟨I.bb, I.bo + i, none⟩ = some (.slice (I.bA i) (I.bL i) (I.bC i))
  cQ : ∀ i, i < I.L → w.cell? ⟨I.qb, I.qo + i, none⟩ = some (.slice (I.qA i) (I.qL i) (I.qC i))
  cX : ∀ i, i < I.L → 0 < I.bL i → ∃ b o, I.bA i = some ⟨b, o, none⟩ ∧ b < B ∧ ∀ k, k < I.bL i → w.cell? ⟨b, o + k, none⟩ = some (.int .i64 (X i k))
  cY : ∀ i, i < I.L → 0 < I.qL i → ∃ b o, I.qA i = some ⟨b, o, none⟩ ∧ b < B ∧ ∀ k, k < I.qL i → w.cell? ⟨b, o + k, none⟩ = some (.int .u64 (Y i k))

theorem In.below {w w' : World} {B B' : Nat} {I : Inp} {J : Nat → Int} {S : Nat → Nat} {X : Nat → Nat → Int} {Y : Nat → Nat → Nat} (h : In w B I J S X Y) (hb : Below B' w w') (hB : B ≤ B') : In w' B I J S X Y :=
  have k : ∀ {b o v}, b < B → w.cell? ⟨b, o, none⟩ = some v → w'.cell? ⟨b, o, none⟩ = some v := fun {b o v} h1 h2 => by rw [hb.cell (p := ⟨b, o, none⟩) (Nat.lt_of_lt_of_le h1 hB)]; exact h2
  { bJ := h.bJ, bS := h.bS, bB := h.bB, bQ := h.bQ, cJ := fun i hi => k h.bJ (h.cJ i hi), cS := fun i hi => k h.bS (h.cS i hi), cB := fun i hi => k h.bB (h.cB i hi), cQ := fun i hi => k h.bQ (h.cQ i hi)
    cX := fun i hi h0 => by obtain ⟨b, o, h1, h2, h3⟩ := h.cX i hi h0; exact ⟨b, o, h1, h2, fun t ht => k h2 (h3 t ht)⟩
    cY := fun i hi h0 => by obtain ⟨b, o, h1, h2, h3⟩ := h.cY i hi h0; exact ⟨b, o, h1, h2, fun t ht => k h2 (h3 t ht)⟩ }

theorem In.congr {w : World} {B : Nat} {I : Inp} {J J' : Nat → Int} {S : Nat → Nat} {X X' : Nat → Nat → Int} {Y : Nat → Nat → Nat} (h : In w B I J S X Y) (hJ : ∀ i, i < I.L → J i = J' i) (hX : ∀ i, i < I.L → ∀ k, k < I.bL i → X i k = X' i k) : In w B I J' S X' Y :=
  { bJ := h.bJ, bS := h.bS, bB := h.bB, bQ := h.bQ, cJ := fun i hi => by rw [h.cJ i hi, hJ i hi], cS := h.cS, cB := h.cB, cQ := h.cQ
    cX := fun i hi h0 => by obtain ⟨b, o, h1, h2, h3⟩ := h.cX i hi h0; exact ⟨b, o, h1, h2, fun t ht => by rw [h3 t ht, hX i hi t ht]⟩
    cY := h.cY }

/-- How many of the first i deliveries are sender s's. -/
def cntTo (J : Nat → Nat) : Nat → Nat → Nat
  | 0, _ => 0
  | i + 1, s => if J i = s then cntTo J i s + 1 else cntTo J i s

theorem cntTo_le (J : Nat → Nat) : ∀ i s, cntTo J i s ≤ i
  | 0, _ => Nat.le_refl _
  | i + 1, s => by have := cntTo_le J i s; unfold cntTo; split <;> omega

theorem cntTo_mono (J : Nat → Nat) (s : Nat) : ∀ i j, i ≤ j → cntTo J i s ≤ cntTo J j s
  | i, 0, h => by have : i = 0 := by omega
                  subst this; exact Nat.le_refl _
  | i, j + 1, h => by
    by_cases e : i = j + 1
    · rw [e]; exact Nat.le_refl _
    · have := cntTo_mono J s i j (by omega)
      refine Nat.le_trans this ?_
      rw [cntTo]; split <;> omega

/-- A valid script's plain data. m i: how many entries the i-th barrier has. -/
structure Valid (n L : Nat) (J S : Nat → Nat) (m : Nat → Nat) (X Y : Nat → Nat → Nat) : Prop where
  j : ∀ i, i < L → J i < n
  s : ∀ i, i < L → S i = cntTo J i (J i) + 1
  x : ∀ i, i < L → ∀ k, k < m i → X i k < n ∧ 1 ≤ Y i k ∧ Y i k ≤ cntTo J i (X i k)

/-- The state g' comes of the i-th delivery upon g. -/
def StepG (J S : Nat → Nat) (m : Nat → Nat) (X Y : Nat → Nat → Nat) (i : Nat) (g g' : GS) : Prop :=
  ∃ l3 h3 F x, l3 = upd (lh2 g (X i) (Y i) (lo1 g (X i) (Y i) (lo0 g (J i) (S i)) (m i)) (hi1 g (X i) (Y i) (hi0 g (J i) (S i)) (m i)) (m i)).1 (J i) (S i) ∧
    h3 = upd (lh2 g (X i) (Y i) (lo1 g (X i) (Y i) (lo0 g (J i) (S i)) (m i)) (hi1 g (X i) (Y i) (hi0 g (J i) (S i)) (m i)) (m i)).2 (J i) (S i) ∧
    g' = fg (newG g (J i) l3 h3) F x ∧ GOk g' ∧ Fgts (newG g (J i) l3 h3) F x ∧ ∀ t, t < g.n → Done g' t

def Built (n keep : Nat) (J S : Nat → Nat) (m : Nat → Nat) (X Y : Nat → Nat → Nat) : Nat → GS → Prop
  | 0, g => g = g0 n keep
  | i + 1, g' => ∃ g, Built n keep J S m X Y i g ∧ StepG J S m X Y i g g'

theorem built_base {n keep : Nat} {J S : Nat → Nat} {m : Nat → Nat} {X Y : Nat → Nat → Nat} : ∀ {i g}, Built n keep J S m X Y i g → g.n = n ∧ g.keep = keep ∧ g.del = i ∧ ∀ s, g.cnt s = cntTo J i s
  | 0, g, h => by
    have h' : g = g0 n keep := h
    subst h'
    exact ⟨rfl, rfl, rfl, fun s => rfl⟩
  | i + 1, g', h => by
    obtain ⟨g, hg, l3, h3, F, x, _, _, rfl, _⟩ := h
    obtain ⟨h1, h2, h3, h4⟩ := built_base hg
    refine ⟨h1, h2, by show g.del + 1 = i + 1; rw [h3], fun s => ?_⟩
    show upd g.cnt (J i) (g.cnt (J i) + 1) s = cntTo J (i + 1) s
    rw [cntTo]
    by_cases e : s = J i
    · subst e; rw [upd_same, if_pos rfl, h4]
    · rw [upd_ne e, if_neg (fun e2 => e e2.symm), h4]

theorem g0_ok {n keep : Nat} (h1 : 1 ≤ n) (h2 : n ≤ 4096) : GOk (g0 n keep) :=
  { n1 := h1, n2 := h2, f1 := fun _ _ => Nat.le_refl _, f2 := fun _ _ h => absurd rfl h, f3 := fun _ _ _ => rfl, c1 := fun _ _ => Nat.le_refl _, d1 := by show 0 ≤ 4096; omega, d2 := by show n * 0 ≤ 4194304; omega
    t1 := fun j hj q h1 h2 => by have h1' : 1 ≤ q := h1; have h2' : q ≤ 0 := h2; omega }

theorem built_ok {n keep : Nat} {J S : Nat → Nat} {m : Nat → Nat} {X Y : Nat → Nat → Nat} (hn1 : 1 ≤ n) (hn2 : n ≤ 4096) : ∀ {i g}, Built n keep J S m X Y i g → GOk g
  | 0, g, h => by
    have h' : g = g0 n keep := h
    subst h'
    exact g0_ok hn1 hn2
  | i + 1, g', h => by
    obtain ⟨g, hg, l3, h3, F, x, _, _, _, hok, _⟩ := h
    exact hok

/-- The graph after i deliveries, in memory. -/
structure BSt (w : World) (n keep : Nat) (J S : Nat → Nat) (m : Nat → Nat) (X Y : Nat → Nat → Nat) (gb : Nat) (i : Nat) (wr : World) (g : GS) (R : Rep) : Prop where
  built : Built n keep J S m X Y i g
  gc : GC wr R g
  gbe : R.gb = gb
  base : R.base = w.heap.size
  bel : Below w.heap.size w wr
  low : ∃ f, wr.rowIs R.lb 22 n f
  high : ∃ f, wr.rowIs R.hb 22 n f

end Go.Proofs.Qxb6605249a

/-
  THE WALK OF ZZAdd.
-/
import Derived.Test.Qxb6605249aAdd
import Derived.Test.Qxb6605249aNew
set_option linter.unusedVariables false
set_option linter.unusedSimpArgs false
namespace Go.Proofs.Qxb6605249a
open Go.RowKit

theorem run_make_entries (m : Nat) (hm : m ≤ 1048576) (w : World) : (Instr.makeSlice 59 (.int .i64 (m : Int)) (.int .i64 (m : Int))).run Try.prog w =
    .ok (.slice (some ⟨w.heap.size, 0, none⟩) m m) (w.alloc (.cells (madeCells #[.int .i64 0, .int .u64 0] (m * 2)) 50)) := by
  obtain ⟨i, hi, hz, hs, hb⟩ := info_parts Try.info50
  have hr := run_make (P := Try.prog) w 59 50 i _ Try.underlying59 hi hz .i64 .i64 m m (by omega) (Int.le_refl _) (by rw [hb]; omega) (by omega)
  simp only [Int.toNat_natCast, hs] at hr
  exact hr

/-- A slice of integers of kind q that came in: nil or not. -/
structure Ints (w : World) (B : Nat) (q : IntKind) (a : Option Addr) (m : Nat) (f : Nat → Nat) : Prop where
  at_ : 0 < m → ∃ b o, a = some ⟨b, o, none⟩ ∧ b < B ∧ ∀ k, k < m → w.cell? ⟨b, o + k, none⟩ = some (.int q (f k))

structure BRel (bb m k : Nat) (S Q : Nat → Nat) (w wr : World) : Prop where
  blk : Blk wr bb 50 (m * 2)
  ex : ∀ i, i < m * 2 → ∃ v, wr.cell? ⟨bb, i, none⟩ = some v
  c : ∀ i, i < k → wr.cell? ⟨bb, i * 2, none⟩ = some (.int .i64 (S i)) ∧ wr.cell? ⟨bb, i * 2 + 1, none⟩ = some (.int .u64 (Q i))
  bel : Below w.heap.size w wr

theorem brel_start (m : Nat) (S Q : Nat → Nat) (w : World) : BRel w.heap.size m 0 S Q w (w.alloc (.cells (madeCells #[.int .i64 0, .int .u64 0] (m * 2)) 50)) :=
  { blk := ⟨_, heap_alloc_new w _, size_madeCells _ _⟩
    ex := fun i hi => by
      rw [cell_of_row _ _ i _ 50 (0, 0) (heap_alloc_new w _)]
      exact ⟨_, Array.getElem?_eq_getElem (by rw [size_madeCells]; exact hi)⟩
    c := fun i hi => by omega
    bel := (Below.refl _ _).alloc (Nat.le_refl _) _ }

theorem brel_step {m k : Nat} {S Q : Nat → Nat} {w wr : World} (h : BRel w.heap.size m k S Q w wr) (hk : k < m) (n : Nat) :
    BRel w.heap.size m (k + 1) S Q w (((wr.setCell ⟨w.heap.size, k * 2, none⟩ (.int .i64 (S k))).setCell ⟨w.heap.size, k * 2 + 1, none⟩ (.int .u64 (Q k))).drewN n) :=
  { blk := (h.blk.set _ _).set _ _
    ex := fun i hi => by
      obtain ⟨v, hv⟩ := h.ex i hi
      obtain ⟨v1, hv1⟩ := cell?_setCell_some (w := wr) (p := ⟨w.heap.size, k * 2, none⟩) (x := .int .i64 (S k)) (q := ⟨w.heap.size, i, none⟩) hv
      exact cell?_setCell_some (p := ⟨w.heap.size, k * 2 + 1, none⟩) (x := .int .u64 (Q k)) hv1
    c := fun i hi => by
      obtain ⟨v0, hv0⟩ := h.ex (k * 2) (by omega)
      obtain ⟨v1, hv1⟩ := h.ex (k * 2 + 1) (by omega)
      rw [World.cell?_drewN, World.cell?_drewN]
      by_cases e : i = k
      · subst e
        refine ⟨?_, ?_⟩
        · rw [World.cell?_setCell_other _ _ _ _ (addr_ne (by omega)), World.cell?_setCell_same _ _ _ hv0]
        · exact World.cell?_setCell_same _ _ _ (u := v1) (by rw [World.cell?_setCell_other _ _ _ _ (addr_ne (by omega))]; exact hv1)
      · refine ⟨?_, ?_⟩
        · rw [World.cell?_setCell_other _ _ _ _ (addr_ne (by omega)), World.cell?_setCell_other _ _ _ _ (addr_ne (by omega))]; exact (h.c i (by omega)).1
        · rw [World.cell?_setCell_other _ _ _ _ (addr_ne (by omega)), World.cell?_setCell_other _ _ _ _ (addr_ne (by omega))]; exact (h.c i (by omega)).2
    bel := below_drewN ((h.bel.setCell (Nat.le_refl _) _).setCell (Nat.le_refl _) _) n }

set_option maxRecDepth 100000 in
set_option maxHeartbeats 1000000 in
theorem zzadd_any (g : GS) (R : Rep) (w : World) (j seq m cS cQ : Nat) (aS aQ : Option Addr) (S Q : Nat → Nat) (h : GC w R g) (ok : GOk g) (f1 f2 : Nat → Value) (hl : w.rowIs R.lb 22 g.n f1) (hh : w.rowIs R.hb 22 g.n f2)
    (hj : j < g.n) (hdl : g.del + 1 ≤ 4096) (hdn : g.n * (g.del + 1) ≤ 4194304) (hseq : seq = g.cnt j + 1) (hm : m ≤ 1048576)
    (hS : Ints w w.heap.size .i64 aS m S) (hQ : Ints w w.heap.size .u64 aQ m Q)
    (hval : ∀ i, i < m → S i < g.n ∧ 1 ≤ Q i ∧ Q i ≤ g.cnt (S i)) :
    Calls Try.prog 31 #[.pointer (some ⟨R.gb, 0, none⟩), .int .i64 j, .int .u64 seq, .slice aS m cS, .slice aQ m cQ] w fun e w' => e = .returned (.tuple #[]) ∧ ∃ l3 h3, (l3 = upd (lh2 g S Q (lo1 g S Q (lo0 g j seq) m) (hi1 g S Q (hi0 g j seq) m) m).1 j seq ∧ h3 = upd (lh2 g S Q (lo1 g S Q (lo0 g j seq) m) (hi1 g S Q (hi0 g j seq) m) m).2 j seq) ∧ Added w R (newG g j l3 h3) w' := by
  have hmk := run_make_entries m hm
  have fin : ∀ wE, BRel w.heap.size m m S Q w wE → Calls Try.prog 36 #[.pointer (some ⟨R.gb, 0, none⟩), .int .i64 j, .int .u64 seq, .slice (some ⟨w.heap.size, 0, none⟩) m m] wE fun e w' => e = .returned (.tuple #[]) ∧ ∃ l3 h3, (l3 = upd (lh2 g S Q (lo1 g S Q (lo0 g j seq) m) (hi1 g S Q (hi0 g j seq) m) m).1 j seq ∧ h3 = upd (lh2 g S Q (lo1 g S Q (lo0 g j seq) m) (hi1 g S Q (hi0 g j seq) m) m).2 j seq) ∧ Added w R (newG g j l3 h3) w' := fun wE hb => by
    have hr0 : (R.role w.heap.size).1 = 0 := by
      rcases Nat.eq_zero_or_pos (R.role w.heap.size).1 with h0 | h0
      · exact h0
      · exact absurd (h.rlt w.heap.size (by omega)) (by omega)
    refine (add_any g R wE j seq m w.heap.size S Q (h.below hb.bel) ok f1 f2 (hl.of_block (hb.bel.block _ hl.lt)) (hh.of_block (hb.bel.block _ hh.lt)) hj hdl hdn hseq hb.blk.lt hr0 hm hb.c hval).mono ?_
    rintro e w' ⟨he, l3, h3, e1, F, x, R', a1, a2, a3, a4, a5, a6, a7⟩
    have hbase : R.base ≤ w.heap.size := by have := h.rbase R.gb (by rw [h.r1]; simp); have := h.lgb; omega
    exact ⟨he, l3, h3, e1, F, x, R', a1, a2, a3, a4, a5, (hb.bel.mono hbase).trans a6, a7⟩
  have HFin := (show Hid (∀ wE, BRel w.heap.size m m S Q w wE → Calls Try.prog 36 #[.pointer (some ⟨R.gb, 0, none⟩), .int .i64 j, .int .u64 seq, .slice (some ⟨w.heap.size, 0, none⟩) m m] wE fun e w' => e = .returned (.tuple #[]) ∧ ∃ l3 h3, (l3 = upd (lh2 g S Q (lo1 g S Q (lo0 g j seq) m) (hi1 g S Q (hi0 g j seq) m) m).1 j seq ∧ h3 = upd (lh2 g S Q (lo1 g S Q (lo0 g j seq) m) (hi1 g S Q (hi0 g j seq) m) m).2 j seq) ∧ Added w R (newG g j l3 h3) w') from fin)
  clear fin hseq
  rcases Nat.eq_zero_or_pos m with h0 | hpos
  · clear h ok hl hh hval hS hQ
    have h0' : m ≤ 0 := by omega
    clear h0
    go_enter Try.func31, Try.ntmps31
    go_wp2
    go_loopg [11] m (fun gk t wr => ∃ k : Nat, k + gk = m ∧ t = .int .i64 k ∧ BRel w.heap.size m k S Q w wr)
    case atStart => exact ⟨0, by omega, rfl, brel_start m S Q w⟩
    case round =>
      obtain ⟨k, hk, rfl, hB⟩ := hrel
      have e : k = m := by omega
      subst e
      have HB : Hid (BRel w.heap.size k k S Q w wr) := hB
      clear hB hmk hk h0'
      go_wp2_with fail
      refine (HFin.out wr HB.out).mono ?_
      rintro e w1 ⟨rfl, hq⟩
      go_wp2_with fail
      go_end0
      exact ⟨rfl, hq⟩
  · obtain ⟨sb, so, rfl, hsb, hSc⟩ := hS.at_ hpos
    obtain ⟨qb, qo, rfl, hqb, hQc⟩ := hQ.at_ hpos
    clear h ok hl hh hval hS hQ
    go_enter Try.func31, Try.ntmps31
    go_wp2
    go_loopg [11] m (fun gk t wr => ∃ k : Nat, k + gk = m ∧ t = .int .i64 k ∧ BRel w.heap.size m k S Q w wr)
    case atStart => exact ⟨0, by omega, rfl, brel_start m S Q w⟩
    case round =>
      obtain ⟨k, hk, rfl, hB⟩ := hrel
      by_cases hlt : k < m
      · have d0 : wr.cell? ⟨sb, so + k, none⟩ = some (.int .i64 (S k)) := by rw [hB.bel.cell (p := ⟨sb, so + k, none⟩) hsb]; exact hSc k hlt
        have d1 : wr.cell? ⟨qb, qo + k, none⟩ = some (.int .u64 (Q k)) := by rw [hB.bel.cell (p := ⟨qb, qo + k, none⟩) hqb]; exact hQc k hlt
        obtain ⟨v0, d2⟩ := hB.ex (k * 2) (by omega)
        obtain ⟨v1, d3⟩ := hB.ex (k * 2 + 1) (by omega)
        have d4 := hB.blk.frozen (k * 2)
        have d5 := hB.blk.frozen (k * 2 + 1)
        have hlt' : (k : Int) < (m : Int) := by omega
        have HB : Hid (BRel w.heap.size m k S Q w wr) := hB
        clear hB hSc hQc hmk
        go_wp2
        go_region
        go_wp2
        go_roundg (gk - 1)
        case measure => omega
        case rel => exact ⟨k + 1, by omega, by go_num, brel_step HB.out hlt 1⟩
      · have e : k = m := by omega
        subst e
        have HB : Hid (BRel w.heap.size k k S Q w wr) := hB
        clear hB hSc hQc hmk
        go_wp2_with fail
        refine (HFin.out wr HB.out).mono ?_
        rintro e w1 ⟨rfl, hq⟩
        go_wp2_with fail
        go_end0
        exact ⟨rfl, hq⟩
end Go.Proofs.Qxb6605249a

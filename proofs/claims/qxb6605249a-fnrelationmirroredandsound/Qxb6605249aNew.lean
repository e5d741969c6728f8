/-
  THE WALK OF ZZNewGraph.
-/
import Derived.Test.Qxb6605249aAddParts
set_option linter.unusedVariables false
set_option linter.unusedSimpArgs false
namespace Go.Proofs.Qxb6605249a
open Go.RowKit

def g0 (n keep : Nat) : GS := { n := n, keep := keep, first := fun _ => 1, cnt := fun _ => 0, L := fun _ _ _ => 0, U := fun _ _ _ => 0, dn := fun _ _ => 0, del := 0, fgt := 0 }

theorem run_make_chains (n : Nat) (hn : n ≤ 4096) (w : World) : (Instr.makeSlice 53 (.int .i64 (n : Int)) (.int .i64 (n : Int))).run Try.prog w =
    .ok (.slice (some ⟨w.heap.size, 0, none⟩) n n) (w.alloc (.cells (madeCells #[.int .u64 0, .slice none 0 0, .slice none 0 0] (n * 3)) 55)) := by
  obtain ⟨i, hi, hz, hs, hb⟩ := info_parts Try.info55
  have hr := run_make (P := Try.prog) w 53 55 i _ Try.underlying53 hi hz .i64 .i64 n n (by omega) (Int.le_refl _) (by rw [hb]; omega) (by omega)
  simp only [Int.toNat_natCast, hs] at hr
  exact hr

structure CRel (cb n k : Nat) (w wr : World) : Prop where
  blk : Blk wr cb 55 (n * 3)
  c0 : ∀ i, i < n → wr.cell? ⟨cb, i * 3, none⟩ = some (.int .u64 (if i < k then 1 else 0))
  c1 : ∀ i, i < n → wr.cell? ⟨cb, i * 3 + 1, none⟩ = some (.slice none 0 0)
  c2 : ∀ i, i < n → wr.cell? ⟨cb, i * 3 + 2, none⟩ = some (.slice none 0 0)
  bel : Below w.heap.size w wr
  sz : wr.heap.size = w.heap.size + 1

theorem heap4 (w : World) (A B C D : Obj) : ((((w.alloc A).alloc B).alloc C).alloc D).heap[w.heap.size]? = some A ∧ ((((w.alloc A).alloc B).alloc C).alloc D).heap[w.heap.size + 1]? = some B ∧
    ((((w.alloc A).alloc B).alloc C).alloc D).heap[w.heap.size + 1 + 1]? = some C ∧ ((((w.alloc A).alloc B).alloc C).alloc D).heap[w.heap.size + 1 + 1 + 1]? = some D := by
  have e : ((((w.alloc A).alloc B).alloc C).alloc D).heap = (((w.heap.push A).push B).push C).push D := rfl
  rw [e]
  refine ⟨?_, ?_, ?_, ?_⟩
  · rw [Array.getElem?_push, if_neg (by simp <;> omega), Array.getElem?_push, if_neg (by simp <;> omega), Array.getElem?_push, if_neg (by simp), Array.getElem?_push, if_pos rfl]
  · rw [Array.getElem?_push, if_neg (by simp <;> omega), Array.getElem?_push, if_neg (by simp), Array.getElem?_push, if_pos (by simp)]
  · rw [Array.getElem?_push, if_neg (by simp), Array.getElem?_push, if_pos (by simp)]
  · rw [Array.getElem?_push, if_pos (by simp)]

theorem rowIs_made22 {w' : World} {b n : Nat} (h : w'.heap[b]? = some (.cells (madeCells #[.int .u64 0] n) 22 (0, 0))) : w'.rowIs b 22 n (fun _ => u64 0) :=
  ⟨_, h, size_madeCells _ _, fun i hi => by simp [madeCells, hi, Nat.mod_one, u64]⟩

def newR (base gb cb lb hb mb : Nat) : Rep :=
  { base := base, gb := gb, cb := cb, lb := lb, hb := hb, mb := mb, P := fun _ => 0, oP := fun _ => 0, cP := fun _ => 0, A := fun _ => 0, oA := fun _ => 0, cA := fun _ => 0, M := fun _ _ => none
    role := fun b => if b = gb then (1, 0) else if b = cb then (2, 0) else if b = lb then (3, 0) else if b = hb then (4, 0) else if b = mb then (5, 0) else (0, 0) }

/-- What ZZNewGraph hands back. -/
def Newed (w : World) (n keep : Nat) (e : Ending) (w' : World) : Prop :=
  ∃ R, e = .returned (.pointer (some ⟨R.gb, 0, none⟩)) ∧ GC w' R (g0 n keep) ∧ R.base = w.heap.size ∧ Below w.heap.size w w' ∧ (∃ f, w'.rowIs R.lb 22 n f) ∧ (∃ f, w'.rowIs R.hb 22 n f)

theorem newed {w wr w' : World} {n keep gb lb hb mb : Nat} (hc : CRel w.heap.size n n w wr) (hcb : w'.heap[w.heap.size]? = wr.heap[w.heap.size]?) (hb' : Below w.heap.size w w')
    (hgb : w'.heap[gb]? = some (.cells #[.int .i64 (n : Int), .int .u64 (keep : Int), .slice (some ⟨w.heap.size, 0, none⟩) n n, .map (some mb), .int .u64 0, .int .u64 0, .slice (some ⟨lb, 0, none⟩) n n, .slice (some ⟨hb, 0, none⟩) n n] 58 (0, 0)))
    (hmb : w'.heap[mb]? = some (.map #[] 0)) (hlb : w'.heap[lb]? = some (.cells (madeCells #[.int .u64 0] n) 22 (0, 0))) (hhb : w'.heap[hb]? = some (.cells (madeCells #[.int .u64 0] n) 22 (0, 0)))
    (lt : w.heap.size < gb ∧ w.heap.size < lb ∧ w.heap.size < hb ∧ w.heap.size < mb) (ne : gb ≠ lb ∧ gb ≠ hb ∧ gb ≠ mb ∧ lb ≠ hb ∧ lb ≠ mb ∧ hb ≠ mb) :
    Newed w n keep (.returned (.pointer (some ⟨gb, 0, none⟩))) w' := by
  have lt' : ∀ {b o}, w'.heap[b]? = some o → b < w'.heap.size := fun h => (Array.getElem?_eq_some_iff.1 h).1
  have cg : ∀ i, w'.cell? ⟨gb, i, none⟩ = (#[.int .i64 (n : Int), .int .u64 (keep : Int), .slice (some ⟨w.heap.size, 0, none⟩) n n, .map (some mb), .int .u64 0, .int .u64 0, .slice (some ⟨lb, 0, none⟩) n n, .slice (some ⟨hb, 0, none⟩) n n] : Array Value)[i]? := fun i => cell_of_row w' gb i _ 58 (0, 0) hgb
  refine ⟨newR w.heap.size gb w.heap.size lb hb mb, rfl, ?_, rfl, hb', ⟨_, rowIs_made22 hlb⟩, ⟨_, rowIs_made22 hhb⟩⟩
  obtain ⟨l1, l2, l3, l4⟩ := lt
  obtain ⟨n1, n2, n3, n4, n5, n6⟩ := ne
  exact
    { gblk := ⟨_, hgb, by simp⟩
      g0 := by rw [show (newR w.heap.size gb w.heap.size lb hb mb).gb = gb from rfl, cg]; rfl
      g1 := by rw [show (newR w.heap.size gb w.heap.size lb hb mb).gb = gb from rfl, cg]; rfl
      g2 := by rw [show (newR w.heap.size gb w.heap.size lb hb mb).gb = gb from rfl, cg]; rfl
      g3 := by rw [show (newR w.heap.size gb w.heap.size lb hb mb).gb = gb from rfl, cg]; rfl
      g4 := by rw [show (newR w.heap.size gb w.heap.size lb hb mb).gb = gb from rfl, cg]; rfl
      g5 := by rw [show (newR w.heap.size gb w.heap.size lb hb mb).gb = gb from rfl, cg]; rfl
      g6 := by rw [show (newR w.heap.size gb w.heap.size lb hb mb).gb = gb from rfl, cg]; rfl
      g7 := by rw [show (newR w.heap.size gb w.heap.size lb hb mb).gb = gb from rfl, cg]; rfl
      cblk := hc.blk.of_block hcb
      c0 := fun j hj => by
        have := cell_keep hcb (hc.c0 j hj)
        rw [if_pos (show j < n from hj)] at this
        exact this
      c1 := fun j hj => cell_keep hcb (hc.c1 j hj)
      c2 := fun j hj => cell_keep hcb (hc.c2 j hj)
      pasts := fun j hj h0 => absurd rfl h0
      ats := fun j hj h0 => absurd rfl h0
      map := ⟨#[], 0, hmb, by simp, by simp, by simp [newR]⟩
      ups := fun j hj q h1 h2 => by have h1' : 1 ≤ q := h1; have h2' : q ≤ 0 := h2; omega
      mnew := fun _ _ _ => rfl
      r1 := by simp [newR]
      r2 := by simp [newR]; omega
      r3 := by simp only [newR]; rw [if_neg (Ne.symm n1), if_neg (by omega), if_pos trivial]
      r4 := by simp only [newR]; rw [if_neg (Ne.symm n2), if_neg (by omega), if_neg (Ne.symm n4), if_pos trivial]
      r5 := by simp only [newR]; rw [if_neg (Ne.symm n3), if_neg (by omega), if_neg (Ne.symm n5), if_neg (Ne.symm n6), if_pos trivial]
      r6 := fun j hj h0 => absurd rfl h0
      r7 := fun j hj h0 => absurd rfl h0
      rlt := fun b hb0 => by
        by_cases e1 : b = gb
        · rw [e1]; exact lt' hgb
        by_cases e2 : b = w.heap.size
        · rw [e2]; exact Nat.lt_of_lt_of_le (by have := lt' hgb; omega) (Nat.le_refl _)
        by_cases e3 : b = lb
        · rw [e3]; exact lt' hlb
        by_cases e4 : b = hb
        · rw [e4]; exact lt' hhb
        by_cases e5 : b = mb
        · rw [e5]; exact lt' hmb
        simp [newR, e1, e2, e3, e4, e5] at hb0
      rbase := fun b hb0 => by
        show w.heap.size ≤ b
        by_cases e1 : b = gb
        · omega
        by_cases e2 : b = w.heap.size
        · omega
        by_cases e3 : b = lb
        · omega
        by_cases e4 : b = hb
        · omega
        by_cases e5 : b = mb
        · omega
        simp [newR, e1, e2, e3, e4, e5] at hb0 }

theorem made3 {z0 z1 z2 v : Value} {m i r : Nat} (hi : i < m) (hr : i % 3 = r) (hv : (#[z0, z1, z2] : Array Value)[r]! = v := by rfl) : (madeCells #[z0, z1, z2] m)[i]? = some v := by
  simp only [madeCells, Array.getElem?_map, Array.getElem?_range, hi, if_true, Option.map_some]
  rw [← hv, ← hr]
  rfl

theorem crel_start (n : Nat) (w : World) : CRel w.heap.size n 0 w (w.alloc (.cells (madeCells #[.int .u64 0, .slice none 0 0, .slice none 0 0] (n * 3)) 55)) :=
  have hc : ∀ i, (w.alloc (.cells (madeCells #[.int .u64 0, .slice none 0 0, .slice none 0 0] (n * 3)) 55)).cell? ⟨w.heap.size, i, none⟩ = (madeCells #[.int .u64 0, .slice none 0 0, .slice none 0 0] (n * 3))[i]? := fun i => cell_of_row _ _ i _ 55 (0, 0) (heap_alloc_new w _)
  { blk := ⟨_, heap_alloc_new w _, size_madeCells _ _⟩
    c0 := fun i hi => by rw [hc]; exact made3 (r := 0) (by omega) (by omega)
    c1 := fun i hi => by rw [hc]; exact made3 (r := 1) (by omega) (by omega)
    c2 := fun i hi => by rw [hc]; exact made3 (r := 2) (by omega) (by omega)
    bel := (Below.refl _ _).alloc (Nat.le_refl _) _
    sz := by simp }

theorem crel_step {n k : Nat} {w wr : World} (h : CRel w.heap.size n k w wr) (hk : k < n) : CRel w.heap.size n (k + 1) w (wr.setCell ⟨w.heap.size, k * 3, none⟩ (.int .u64 1)) :=
  { blk := h.blk.set _ _
    c0 := fun i hi => by
      by_cases e : i = k
      · subst e; rw [World.cell?_setCell_same _ _ _ (h.c0 i hi), if_pos (by omega)]
      · rw [World.cell?_setCell_other _ _ _ _ (addr_ne (by omega)), h.c0 i hi]
        by_cases e2 : i < k
        · rw [if_pos e2, if_pos (by omega)]
        · rw [if_neg e2, if_neg (by omega)]
    c1 := fun i hi => by rw [World.cell?_setCell_other _ _ _ _ (addr_ne (by omega))]; exact h.c1 i hi
    c2 := fun i hi => by rw [World.cell?_setCell_other _ _ _ _ (addr_ne (by omega))]; exact h.c2 i hi
    bel := h.bel.setCell (Nat.le_refl _) _
    sz := by simpa using h.sz }

set_option maxRecDepth 100000 in
set_option maxHeartbeats 1000000 in
theorem new_any (n keep : Nat) (hn : n ≤ 4096) (w : World) :
    Calls Try.prog 30 #[.int .i64 n, .int .u64 keep] w fun e w' => Newed w n keep e w' := by
  have hmk := run_make_chains n hn
  have hmr := run_make_row' (P := Try.prog) 24 22 (.int .u64 0) 8 Try.underlying24 Try.info22 rfl .i64 .i64 n (by omega) (by omega)
  have hmm := @run_makeMap Try.prog
  go_enter Try.func30, Try.ntmps30
  go_wp2
  go_loopg [6] n (fun gk t wr => ∃ k : Nat, k + gk = n ∧ t = .int .i64 k ∧ CRel w.heap.size n k w wr)
  case atStart => exact ⟨0, by omega, rfl, crel_start n w⟩
  case round =>
    obtain ⟨k, hk, rfl, hc⟩ := hrel
    by_cases hlt : k < n
    · have d0 := hc.c0 k hlt
      have d1 := hc.blk.frozen (k * 3)
      have HC : Hid (CRel w.heap.size n k w wr) := hc
      clear hc
      go_wp2
      go_roundg (gk - 1)
      case measure => omega
      case rel => exact ⟨k + 1, by omega, by go_num, crel_step HC.out hlt⟩
    · have e : k = n := by omega
      subst e
      have HC : Hid (CRel w.heap.size k k w wr) := hc
      clear hc
      go_wp2
      go_region
      all_goals
        go_wp2
        go_ret
        have hc := HC.out
        have h4 := heap4 wr
        have hlt4 : w.heap.size < wr.heap.size := by have := hc.sz; omega
        refine newed hc ?_ ?_ ((h4 _ _ _ _).2.2.2) ?_ ?_ ?_ (by omega) (by omega)
        · show (((((wr.heap.push _).push _).push _).push _))[w.heap.size]? = _
          rw [Array.getElem?_push, if_neg (by simp <;> omega), Array.getElem?_push, if_neg (by simp <;> omega), Array.getElem?_push, if_neg (by simp <;> omega), Array.getElem?_push, if_neg (by omega)]
        · exact ((((hc.bel.alloc (by omega) _).alloc (by simp; omega) _).alloc (by simp; omega) _).alloc (by simp; omega) _).drew
        · first | exact (h4 _ _ _ _).1 | exact (h4 _ _ _ _).2.1 | exact (h4 _ _ _ _).2.2.1
        · first | exact (h4 _ _ _ _).1 | exact (h4 _ _ _ _).2.1 | exact (h4 _ _ _ _).2.2.1
        · first | exact (h4 _ _ _ _).1 | exact (h4 _ _ _ _).2.1 | exact (h4 _ _ _ _).2.2.1

end Go.Proofs.Qxb6605249a

/-
  CLOSED FACTS OF THE LOADED PROGRAM; small laws of memory; the map from int to int.
-/
import Derived.Test.Qxb6600486aProg
import Derived.Test.Qxb6600486aMem
import Derived.KernelRfl
import Derived.DeepKeys4
import Derived.Maps.Keyed
import Derived.Deep.AppendLies
set_option linter.unusedVariables false
set_option linter.unusedSimpArgs false
namespace Go.Proofs.Qxb6600486a
open Go.RowKit

theorem Try.laidOut : laidOutB Try.prog = true := by kernel_rfl
theorem Try.cells3 : Try.prog.cellsOf 3 = 1 := by kernel_rfl
theorem Try.cells22 : Try.prog.cellsOf 22 = 1 := by kernel_rfl
theorem Try.info3 : (Try.prog.info? 3).map (fun i => (i.zero, i.size, i.bytes)) = some (some (.int .i64 0), 1, 8) := by kernel_rfl
theorem Try.info4 : (Try.prog.info? 4).map (fun i => (i.zero, i.size, i.bytes)) = some (some (.bool false), 1, 1) := by kernel_rfl
theorem Try.info22 : (Try.prog.info? 22).map (fun i => (i.zero, i.size, i.bytes)) = some (some (.slice none 0 0), 1, 24) := by kernel_rfl
theorem Try.zero3 (w : World) : (zeroValue 3).run Try.prog w = .ok (.int .i64 0) w := by kernel_rfl

theorem addr_ne {b i j : Nat} (h : i ≠ j) : (⟨b, i, none⟩ : Addr) ≠ ⟨b, j, none⟩ := fun e => h (congrArg Addr.off e)

theorem cell_keep {w w' : World} {b o : Nat} {v : Value} (e : w'.heap[b]? = w.heap[b]?) (h : w.cell? ⟨b, o, none⟩ = some v) : w'.cell? ⟨b, o, none⟩ = some v := by
  rw [World.cell?_of_block (w := w) (w' := w') (a := ⟨b, o, none⟩) e]; exact h

theorem seg_below {w w' : World} {b o n : Nat} {f : Nat → Value} (h : Seg w b o n f) (hb : b < w.heap.size) (hw : Below w.heap.size w w') : Seg w' b o n f := h.of_block (hw.block b hb)

def upd {α : Type} (f : Nat → α) (k : Nat) (v : α) : Nat → α := fun i => if i = k then v else f i
theorem upd_same {α : Type} (f : Nat → α) (k : Nat) (v : α) : upd f k v k = v := by simp [upd]
theorem upd_ne {α : Type} {f : Nat → α} {k : Nat} {v : α} {i : Nat} (h : i ≠ k) : upd f k v i = f i := by simp [upd, h]

def iv (x : Nat) : Value := .int .i64 x

theorem run_make_ints (n : Nat) (hn : n ≤ 1048576) (w : World) : (Instr.makeSlice 22 (.int .i64 (n : Int)) (.int .i64 (n : Int))).run Try.prog w =
    .ok (.slice (some ⟨w.heap.size, 0, none⟩) n n) (w.alloc (.cells (madeCells #[.int .i64 0] n) 3)) := by
  obtain ⟨i, hi, hz, hs, hb⟩ := info_parts Try.info3
  have hr := run_make (P := Try.prog) w 22 3 i _ Try.underlying22 hi hz .i64 .i64 n n (by omega) (Int.le_refl _) (by rw [hb]; omega) (by omega)
  simp only [Int.toNat_natCast, hs, Nat.mul_one] at hr
  exact hr

theorem run_make_bools (n : Nat) (hn : n ≤ 1048576) (w : World) : (Instr.makeSlice 30 (.int .i64 (n : Int)) (.int .i64 (n : Int))).run Try.prog w =
    .ok (.slice (some ⟨w.heap.size, 0, none⟩) n n) (w.alloc (.cells (madeCells #[.bool false] n) 4)) := by
  obtain ⟨i, hi, hz, hs, hb⟩ := info_parts Try.info4
  have hr := run_make (P := Try.prog) w 30 4 i _ Try.underlying30 hi hz .i64 .i64 n n (by omega) (Int.le_refl _) (by rw [hb]; omega) (by omega)
  simp only [Int.toNat_natCast, hs, Nat.mul_one] at hr
  exact hr

theorem src_one {w : World} (p : Nat) : Src Try.prog 1 22 (.slice (some ⟨w.heap.size, 0, none⟩) 1 1) 1 [.int .i64 (p : Int)] (w.alloc (.cells #[.int .i64 (p : Int)] 3)) :=
  Src.ofSlice _ Try.underlying22 ⟨w.heap.size, 0, none⟩ 1 1 _ (by simp) (World.news_of_block (cs := #[.int .i64 (p : Int)]) (t := 3) (fr := (0, 0)) (heap_alloc_new w _)) (by simp [Value.oneCell'])

theorem src_one_set {wr : World} {a : Addr} {v : Value} (p : Nat) : Src Try.prog 1 22 (.slice (some ⟨wr.heap.size, 0, none⟩) 1 1) 1 [.int .i64 (p : Int)] ((wr.setCell a v).alloc (.cells #[.int .i64 (p : Int)] 3)) := by
  have := src_one (w := wr.setCell a v) p
  rwa [show (wr.setCell a v).heap.size = wr.heap.size from by simp [World.setCell]] at this

theorem App.blockLt {w : World} {t : TypeId} {b o len cap : Nat} {f : Nat → Value} (h : App w t b o len cap f) : b < w.heap.size := h.lt

/-! ### The map from int to int -/

theorem Try.law3 : Go.Maps.Keyed Try.prog 3 := Go.Maps.int_keyed Try.underlying3

/-- The key of node s. -/
def K (s : Nat) : Value := .int .i64 s

theorem keyOf_K {s : Nat} (hs : s ≤ 1048576) : ∃ l, keyOf Try.prog 3 (K s) = some l :=
  ⟨_, Go.Maps.keyOf_int_mk Try.underlying3 (WalkArith.wf_i64 (by omega))⟩

theorem K_inj {s s' : Nat} (h : K s = K s') : s = s' := by
  simp [K] at h
  omega

/-- Block b is a map whose entry at s is M s. -/
def MapIs (w : World) (b : Nat) (M : Nat → Option Nat) : Prop :=
  ∃ (es : Array MapEntry) (clock : Nat), w.heap[b]? = some (.map es clock) ∧ (∀ e ∈ es.toList, ∃ s u : Nat, s ≤ 1048576 ∧ e.key = K s ∧ e.val = .int .i64 (u : Int)) ∧
    ∀ s u, M s = some u ↔ ∃ e ∈ es.toList, e.key = K s ∧ e.val = .int .i64 (u : Int)

theorem MapIs.of_block {w w' : World} {b : Nat} {M : Nat → Option Nat} (h : MapIs w b M) (e : w'.heap[b]? = w.heap[b]?) : MapIs w' b M := by
  obtain ⟨es, clock, hb, r⟩ := h
  exact ⟨es, clock, e.trans hb, r⟩

theorem MapIs.lt {w : World} {b : Nat} {M : Nat → Option Nat} (h : MapIs w b M) : b < w.heap.size := by
  obtain ⟨es, clock, hb, _⟩ := h
  exact (Array.getElem?_eq_some_iff.1 hb).1

theorem mapIs_made (w : World) : MapIs (w.alloc (.map #[] 0)) w.heap.size (fun _ => none) :=
  ⟨#[], 0, heap_alloc_new w _, by simp, by simp⟩

theorem MapIs.keys {es : Array MapEntry} (h : ∀ e ∈ es.toList, ∃ s u : Nat, s ≤ 1048576 ∧ e.key = K s ∧ e.val = .int .i64 (u : Int)) : ∀ e ∈ es.toList, ∃ l, keyOf Try.prog 3 e.key = some l := fun e he => by
  obtain ⟨s, u, hs, hk, _⟩ := h e he
  rw [hk]; exact keyOf_K hs

/-- '_, ok := m[s]' at a key that is not there. -/
theorem MapIs.lookup_none {w : World} {b : Nat} {M : Nat → Option Nat} (h : MapIs w b M) {s : Nat} (hs : s ≤ 1048576) (hn : M s = none) :
    (Instr.lookup 59 (.map (some b)) (.int .i64 (s : Int)) true).run Try.prog w = .ok (.tuple #[.int .i64 0, .bool false]) w := by
  obtain ⟨es, clock, hb, hk, hM⟩ := h
  obtain ⟨l, hl⟩ := keyOf_K hs
  have hl' : keyOf Try.prog 3 (.int .i64 (s : Int)) = some l := hl
  rcases Try.law3.find w hl' es.toList (MapIs.keys hk) with ⟨h1, h2⟩ | ⟨j, e0, h1, h2, h3⟩
  · simp [Instr.lookup, run_underlying Try.underlying59, MapKept.run_getObj_map hb, Try.law3.check w _ hl', h1, Try.zero3]
  · exfalso
    obtain ⟨s', u, _, e1, e2⟩ := hk e0 (List.mem_of_getElem? h2)
    have := (hM s u).2 ⟨e0, List.mem_of_getElem? h2, h3, e2⟩
    rw [hn] at this
    cases this

theorem MapIs.find_some {w : World} {b : Nat} {M : Nat → Option Nat} (h : MapIs w b M) {s u : Nat} (hs : s ≤ 1048576) (hn : M s = some u) :
    (Instr.lookup 59 (.map (some b)) (.int .i64 (s : Int)) true).run Try.prog w = .ok (.tuple #[.int .i64 (u : Int), .bool true]) w ∧
    (Instr.lookup 59 (.map (some b)) (.int .i64 (s : Int)) false).run Try.prog w = .ok (.int .i64 (u : Int)) w := by
  obtain ⟨es, clock, hb, hk, hM⟩ := h
  obtain ⟨l, hl⟩ := keyOf_K hs
  have hl' : keyOf Try.prog 3 (.int .i64 (s : Int)) = some l := hl
  rcases Try.law3.find w hl' es.toList (MapIs.keys hk) with ⟨h1, h2⟩ | ⟨j, e0, h1, h2, h3⟩
  · exfalso
    obtain ⟨e, he, hke, _⟩ := (hM s u).1 hn
    exact h2 e he hke
  · obtain ⟨s', u', _, e1, e2⟩ := hk e0 (List.mem_of_getElem? h2)
    have := (hM s u').2 ⟨e0, List.mem_of_getElem? h2, h3, e2⟩
    rw [hn] at this
    cases this
    constructor
    · simp [Instr.lookup, run_underlying Try.underlying59, MapKept.run_getObj_map hb, Try.law3.check w _ hl', h1, Try.zero3, e2]
    · simp [Instr.lookup, run_underlying Try.underlying59, MapKept.run_getObj_map hb, Try.law3.check w _ hl', h1, Try.zero3, e2]

theorem setB_other {w : World} {b k : Nat} {o : Obj} (h : k ≠ b) : ({ w with heap := w.heap.setIfInBounds b o } : World).heap[k]? = w.heap[k]? := by
  simp only [Array.getElem?_setIfInBounds]
  rw [if_neg (fun e => h e.symm)]

theorem setB_grownBy (w : World) (b : Nat) (o : Obj) : w.grownBy { w with heap := w.heap.setIfInBounds b o } (some b) :=
  ⟨rfl, rfl, rfl, by simp, fun k _ hne => setB_other (by simpa using hne)⟩

/-- A store at a key that is not there yet. -/
theorem MapIs.store {w : World} {b : Nat} {M : Nat → Option Nat} (h : MapIs w b M) {s : Nat} (hs : s ≤ 1048576) (hnew : M s = none) (v : Nat) :
    ∃ w', (Instr.mapUpdate 59 (.map (some b)) (.int .i64 (s : Int)) (.int .i64 (v : Int))).run Try.prog w = .ok () w' ∧ MapIs w' b (upd M s (some v)) ∧ w.grownBy w' (some b) := by
  obtain ⟨es, clock, hb, hk, hM⟩ := h
  obtain ⟨l, hl⟩ := keyOf_K hs
  have hl' : keyOf Try.prog 3 (.int .i64 (s : Int)) = some l := hl
  have hlt : b < w.heap.size := (Array.getElem?_eq_some_iff.1 hb).1
  have hno : ∀ e ∈ es.toList, e.key ≠ K s := fun e he hke => by
    obtain ⟨s', u, _, e1, e2⟩ := hk e he
    have := (hM s u).2 ⟨e, he, hke, e2⟩
    rw [hnew] at this; cases this
  rcases Try.law3.find w hl' es.toList (MapIs.keys hk) with ⟨h1, h2⟩ | ⟨j, e0, h1, h2, h3⟩
  · refine ⟨{ w with heap := w.heap.setIfInBounds b (.map (es.push { key := .int .i64 (s : Int), val := .int .i64 (v : Int), born := clock }) (clock + 1)) }, ?_, ⟨es.push { key := .int .i64 (s : Int), val := .int .i64 (v : Int), born := clock }, clock + 1, by simp [hlt], ?_, ?_⟩, setB_grownBy w b _⟩
    · simp [Instr.mapUpdate, run_underlying Try.underlying59, MapKept.run_getObj_map hb, Try.law3.check w _ hl', h1, MapKept.run_setObj_map _ hb, Result.andThen]
    · intro e he
      simp only [Array.toList_push, List.mem_append, List.mem_singleton] at he
      rcases he with he | rfl
      · exact hk e he
      · exact ⟨s, v, hs, rfl, rfl⟩
    · intro s' u
      simp only [Array.toList_push, List.mem_append, List.mem_singleton]
      by_cases e : s' = s
      · subst e
        rw [upd_same]
        constructor
        · intro hh; cases hh; exact ⟨_, .inr rfl, rfl, rfl⟩
        · rintro ⟨x, hx | rfl, hkx, hv⟩
          · exact absurd hkx (hno x hx)
          · have : (v : Int) = (u : Int) := by simpa using hv
            congr 1
            omega
      · rw [upd_ne e, hM]
        constructor
        · rintro ⟨x, hx, h5⟩; exact ⟨x, .inl hx, h5⟩
        · rintro ⟨x, hx | rfl, hkx, hv⟩
          · exact ⟨x, hx, hkx, hv⟩
          · exact absurd (K_inj (s := s) (s' := s') hkx).symm e
  · exact absurd h3 (hno e0 (List.mem_of_getElem? h2))

end Go.Proofs.Qxb6600486a

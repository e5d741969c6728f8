/-
  CLOSED FACTS OF THE LOADED PROGRAM, and what its map keys are.
-/
import Derived.Test.Qxb6605249aProg
import Derived.Test.Qxb6605249aMem
import Derived.KernelRfl
import Derived.DeepKeys4
import Derived.Maps.Keyed
namespace Go.Proofs.Qxb6605249a
open Go.RowKit

theorem Try.laidOut : laidOutB Try.prog = true := by kernel_rfl
theorem Try.cells3 : Try.prog.cellsOf 3 = 1 := by kernel_rfl
theorem Try.cells22 : Try.prog.cellsOf 22 = 1 := by kernel_rfl
theorem Try.cells23 : Try.prog.cellsOf 23 = 1 := by kernel_rfl
theorem Try.cells24 : Try.prog.cellsOf 24 = 1 := by kernel_rfl
theorem Try.cells50 : Try.prog.cellsOf 50 = 2 := by kernel_rfl
theorem Try.info3 : (Try.prog.info? 3).map (fun i => (i.zero, i.size, i.bytes)) = some (some (.int .i64 0), 1, 8) := by kernel_rfl
theorem Try.info4 : (Try.prog.info? 4).map (fun i => (i.zero, i.size, i.bytes)) = some (some (.bool false), 1, 1) := by kernel_rfl
theorem Try.info22 : (Try.prog.info? 22).map (fun i => (i.zero, i.size, i.bytes)) = some (some (.int .u64 0), 1, 8) := by kernel_rfl
theorem Try.info23 : (Try.prog.info? 23).map (fun i => (i.zero, i.size, i.bytes)) = some (some (.slice none 0 0), 1, 24) := by kernel_rfl
theorem Try.info50 : (Try.prog.info? 50).map (fun i => (i.zero, i.size, i.bytes)) = some (some (.agg #[.int .i64 0, .int .u64 0]), 2, 16) := by kernel_rfl
theorem Try.info55 : (Try.prog.info? 55).map (fun i => (i.zero, i.size, i.bytes)) = some (some (.agg #[.int .u64 0, .slice none 0 0, .slice none 0 0]), 3, 56) := by kernel_rfl
theorem Try.size22 : (Try.prog.info? 22).map (·.size) = some 1 := by kernel_rfl
theorem Try.zero22 (w : World) : (zeroValue 22).run Try.prog w = .ok (.int .u64 0) w := by kernel_rfl
theorem Try.zero24 (w : World) : (zeroValue 24).run Try.prog w = .ok (.slice none 0 0) w := by kernel_rfl
theorem Try.tsize : Try.prog.types.size = 86 := by kernel_rfl
theorem Try.row50 : (50 : TypeId) < Try.prog.types.size := of_decide_eq_true (by kernel_rfl)
theorem Try.wide50 : (match Try.prog.underlying 50 with | some (.array _ _) | some (.struct _) => true | _ => false) = true := by rw [Try.underlying50]
theorem Try.law50 : Go.Maps.Keyed Try.prog 50 := Go.Maps.Keyed.of_law (deep_law_laid Try.laidOut (m := 2) (by omega) Try.row50 (by kernel_rfl) Try.wide50)
theorem Try.keyType50 : Try.prog.keyType 50 = true := by kernel_rfl

/-! ### The map from entries to rows -/

/-- The key of message q of sender s. -/
def K (s q : Nat) : Value := .agg #[.int .i64 s, .int .u64 q]

theorem K_inj {s q s' q' : Nat} (h : K s q = K s' q') : s = s' ∧ q = q' := by
  simp [K] at h
  omega

theorem keyOf_K {s q : Nat} (hs : s < 9223372036854775808) (hq : q < 18446744073709551616) : ∃ l, keyOf Try.prog 50 (K s q) = some l := by
  have w1 : (Lit.int .i64 (s : Int)).wf = true := WalkArith.wf_i64 (by omega)
  have w2 : (Lit.int .u64 (q : Int)).wf = true := WalkArith.wf_u64 (by omega)
  have hf : (K s q).formed Try.prog 50 = true := by simp [K, Value.formed, Try.underlying50, Try.cells50]
  have hl : ∃ ls, Try.prog.keyLits (Try.prog.types.size + 1) 50 (K s q).cells.toList = some ls := by
    have hd : ∀ d, Try.prog.keyLits (d + 1 + 1) 50 (K s q).cells.toList = some [.int .i64 s, .int .u64 q] := fun d => by
      simp [Program.keyLits, Try.underlying50, K, Value.cells, Try.cells50, Try.cells3, Try.cells22, Try.underlying3, Try.underlying22, w1, w2]
    exact ⟨_, by rw [Try.tsize]; exact hd 85⟩
  obtain ⟨ls, hls⟩ := hl
  exact ⟨.string (keyBytes ls), by simp only [keyOf, Try.underlying50, Try.keyType50, hf, hls, Bool.and_self, if_true, Option.map_some]⟩

/-- Block b is a map whose entry at (s, q) is M s q. -/
def MapIs (w : World) (b : Nat) (M : Nat → Nat → Option Value) : Prop :=
  ∃ (es : Array MapEntry) (clock : Nat), w.heap[b]? = some (.map es clock) ∧ (∀ e ∈ es.toList, ∃ s q, s < 9223372036854775808 ∧ q < 18446744073709551616 ∧ e.key = K s q) ∧
    es.toList.Pairwise (fun x y => x.key ≠ y.key) ∧ ∀ s q u, M s q = some u ↔ ∃ e ∈ es.toList, e.key = K s q ∧ e.val = u

theorem MapIs.of_block {w w' : World} {b : Nat} {M : Nat → Nat → Option Value} (h : MapIs w b M) (e : w'.heap[b]? = w.heap[b]?) : MapIs w' b M := by
  obtain ⟨es, clock, hb, r⟩ := h
  exact ⟨es, clock, e.trans hb, r⟩

theorem MapIs.lt {w : World} {b : Nat} {M : Nat → Nat → Option Value} (h : MapIs w b M) : b < w.heap.size := by
  obtain ⟨es, clock, hb, _⟩ := h
  exact (Array.getElem?_eq_some_iff.1 hb).1

theorem mapIs_made (w : World) : MapIs (w.alloc (.map #[] 0)) w.heap.size (fun _ _ => none) :=
  ⟨#[], 0, heap_alloc_new w _, by simp, by simp, by simp⟩

theorem MapIs.keys {es : Array MapEntry} (h : ∀ e ∈ es.toList, ∃ s q, s < 9223372036854775808 ∧ q < 18446744073709551616 ∧ e.key = K s q) : ∀ e ∈ es.toList, ∃ l, keyOf Try.prog 50 e.key = some l := fun e he => by
  obtain ⟨s, q, hs, hq, hk⟩ := h e he
  rw [hk]; exact keyOf_K hs hq

theorem pair_key {es : List MapEntry} (hp : es.Pairwise (fun x y => x.key ≠ y.key)) {x y : MapEntry} (hx : x ∈ es) (hy : y ∈ es) (h : x.key = y.key) : x = y := by
  induction es with
  | nil => cases hx
  | cons a r ih =>
    obtain ⟨h1, h2⟩ := List.pairwise_cons.1 hp
    rcases List.mem_cons.1 hx with ex | hx' <;> rcases List.mem_cons.1 hy with ey | hy'
    · rw [ex, ey]
    · exact absurd h (ex ▸ h1 y hy')
    · exact absurd h.symm (ey ▸ h1 x hx')
    · exact ih h2 hx' hy'

theorem MapIs.lookup {w : World} {b : Nat} {M : Nat → Nat → Option Value} (h : MapIs w b M) {s q : Nat} (hs : s < 9223372036854775808) (hq : q < 18446744073709551616) :
    (Instr.lookup 56 (.map (some b)) (K s q) true).run Try.prog w = .ok (.tuple #[(M s q).getD (.slice none 0 0), .bool (M s q).isSome]) w := by
  obtain ⟨es, clock, hb, hk, hp, hM⟩ := h
  obtain ⟨l, hl⟩ := keyOf_K hs hq
  rcases Try.law50.find w hl es.toList (MapIs.keys hk) with ⟨h1, h2⟩ | ⟨j, e0, h1, h2, h3⟩
  · have hn : M s q = none := by
      cases hm : M s q with
      | none => rfl
      | some u =>
        obtain ⟨e, he, hke, _⟩ := (hM s q u).1 hm
        exact absurd hke (h2 e he)
    simp [Instr.lookup, run_underlying Try.underlying56, MapKept.run_getObj_map hb, Try.law50.check w _ hl, h1, hn]
  · have hn : M s q = some e0.val := (hM s q e0.val).2 ⟨e0, List.mem_of_getElem? h2, h3, rfl⟩
    simp [Instr.lookup, run_underlying Try.underlying56, MapKept.run_getObj_map hb, Try.law50.check w _ hl, h1, hn]

theorem setB_other {w : World} {b k : Nat} {o : Obj} (h : k ≠ b) : ({ w with heap := w.heap.setIfInBounds b o } : World).heap[k]? = w.heap[k]? := by
  simp only [Array.getElem?_setIfInBounds]
  rw [if_neg (fun e => h e.symm)]

theorem setB_grownBy (w : World) (b : Nat) (o : Obj) : w.grownBy { w with heap := w.heap.setIfInBounds b o } (some b) :=
  ⟨rfl, rfl, rfl, by simp, fun k _ hne => setB_other (by simpa using hne)⟩

/-- A store at a key that is not there yet. -/
theorem MapIs.store {w : World} {b : Nat} {M : Nat → Nat → Option Value} (h : MapIs w b M) {s q : Nat} (hs : s < 9223372036854775808) (hq : q < 18446744073709551616) (hnew : M s q = none) (v : Value) :
    ∃ w', (Instr.mapUpdate 56 (.map (some b)) (K s q) v).run Try.prog w = .ok () w' ∧ MapIs w' b (fun s' q' => if s' = s ∧ q' = q then some v else M s' q') ∧ w.grownBy w' (some b) := by
  obtain ⟨es, clock, hb, hk, hp, hM⟩ := h
  obtain ⟨l, hl⟩ := keyOf_K hs hq
  have hlt : b < w.heap.size := (Array.getElem?_eq_some_iff.1 hb).1
  have hno : ∀ e ∈ es.toList, e.key ≠ K s q := fun e he hke => by
    have := (hM s q e.val).2 ⟨e, he, hke, rfl⟩
    rw [hnew] at this; cases this
  rcases Try.law50.find w hl es.toList (MapIs.keys hk) with ⟨h1, h2⟩ | ⟨j, e0, h1, h2, h3⟩
  · refine ⟨{ w with heap := w.heap.setIfInBounds b (.map (es.push { key := K s q, val := v, born := clock }) (clock + 1)) }, ?_, ⟨es.push { key := K s q, val := v, born := clock }, clock + 1, by simp [hlt], ?_, ?_, ?_⟩, setB_grownBy w b _⟩
    · simp [Instr.mapUpdate, run_underlying Try.underlying56, MapKept.run_getObj_map hb, Try.law50.check w _ hl, h1, MapKept.run_setObj_map _ hb, Result.andThen]
    · intro e he
      simp only [Array.toList_push, List.mem_append, List.mem_singleton] at he
      rcases he with he | rfl
      · exact hk e he
      · exact ⟨s, q, hs, hq, rfl⟩
    · simp only [Array.toList_push]
      refine List.pairwise_append.2 ⟨hp, by simp, fun a ha c hc => ?_⟩
      rw [List.mem_singleton.1 hc]
      exact hno a ha
    · intro s' q' u
      show (if s' = s ∧ q' = q then some v else M s' q') = some u ↔ _
      simp only [Array.toList_push, List.mem_append, List.mem_singleton]
      by_cases e : s' = s ∧ q' = q
      · obtain ⟨rfl, rfl⟩ := e
        simp only [and_self, if_true, Option.some.injEq]
        constructor
        · rintro rfl; exact ⟨_, .inr rfl, rfl, rfl⟩
        · rintro ⟨x, hx | rfl, hkx, rfl⟩
          · exact absurd hkx (hno x hx)
          · rfl
      · rw [if_neg e, hM]
        constructor
        · rintro ⟨x, hx, h5⟩; exact ⟨x, .inl hx, h5⟩
        · rintro ⟨x, hx | rfl, h5, h6⟩
          · exact ⟨x, hx, h5, h6⟩
          · exact absurd (K_inj h5) (fun ⟨h7, h8⟩ => e ⟨h7.symm, h8.symm⟩)
  · exact absurd h3 (hno e0 (List.mem_of_getElem? h2))

theorem MapIs.del {w : World} {b : Nat} {M : Nat → Nat → Option Value} (h : MapIs w b M) {s q : Nat} (hs : s < 9223372036854775808) (hq : q < 18446744073709551616) (ty : TypeId) :
    ∃ w', (Builtin.delete_ #[56, 50] ty #[.map (some b), K s q]).run Try.prog w = .ok (.tuple #[]) w' ∧ MapIs w' b (fun s' q' => if s' = s ∧ q' = q then none else M s' q') ∧ w.grownBy w' (some b) := by
  obtain ⟨es, clock, hb, hk, hp, hM⟩ := h
  obtain ⟨l, hl⟩ := keyOf_K hs hq
  have hlt : b < w.heap.size := (Array.getElem?_eq_some_iff.1 hb).1
  rcases Try.law50.find w hl es.toList (MapIs.keys hk) with ⟨h1, h2⟩ | ⟨j, e0, h1, h2, h3⟩
  · refine ⟨{ w with heap := w.heap.setIfInBounds b (.map es clock) }, ?_, ⟨es, clock, by simp [hlt], hk, hp, ?_⟩, setB_grownBy w b _⟩
    · simp [Builtin.delete_, run_underlying Try.underlying56, MapKept.run_getObj_map hb, Try.law50.check w _ hl, h1, MapKept.run_setObj_map _ hb, Result.andThen]
    · intro s' q' u
      show (if s' = s ∧ q' = q then none else M s' q') = some u ↔ _
      by_cases e : s' = s ∧ q' = q
      · obtain ⟨rfl, rfl⟩ := e
        simp only [and_self, if_true]
        constructor
        · intro h; cases h
        · rintro ⟨x, hx, h5, _⟩; exact absurd h5 (h2 x hx)
      · rw [if_neg e]; exact hM s' q' u
  · have hjl : j < es.toList.length := (List.getElem?_eq_some_iff.1 h2).1
    have hjs : j < es.size := by simpa using hjl
    have hsub : (es.eraseIdxIfInBounds j).toList = es.toList.eraseIdx j := by
      unfold Array.eraseIdxIfInBounds
      rw [dif_pos hjs]
      simp
    have hmem : ∀ x, x ∈ es.toList.eraseIdx j ↔ x ∈ es.toList ∧ x.key ≠ K s q := by
      intro x
      have hej : es.toList[j] = e0 := (List.getElem?_eq_some_iff.1 h2).2
      have hsplit : es.toList = es.toList.take j ++ e0 :: es.toList.drop (j + 1) := by
        rw [← hej, List.getElem_cons_drop, List.take_append_drop]
      have herase : es.toList.eraseIdx j = es.toList.take j ++ es.toList.drop (j + 1) := List.eraseIdx_eq_take_drop_succ _ _
      rw [herase]
      have hp' := hp
      rw [hsplit] at hp'
      obtain ⟨_, q2, q3⟩ := List.pairwise_append.1 hp'
      obtain ⟨q4, _⟩ := List.pairwise_cons.1 q2
      constructor
      · intro hx
        rcases List.mem_append.1 hx with hx | hx
        · exact ⟨(List.take_sublist _ _).subset hx, fun e => q3 x hx e0 (by simp) (e.trans h3.symm)⟩
        · exact ⟨(List.drop_sublist _ _).subset hx, fun e => q4 x hx (h3.trans e.symm)⟩
      · rintro ⟨hx, hne⟩
        rw [hsplit] at hx
        rcases List.mem_append.1 hx with hx | hx
        · exact List.mem_append.2 (.inl hx)
        · rcases List.mem_cons.1 hx with rfl | hx
          · exact absurd h3 hne
          · exact List.mem_append.2 (.inr hx)
    refine ⟨{ w with heap := w.heap.setIfInBounds b (.map (es.eraseIdxIfInBounds j) clock) }, ?_, ⟨es.eraseIdxIfInBounds j, clock, by simp [hlt], ?_, ?_, ?_⟩, setB_grownBy w b _⟩
    · simp [Builtin.delete_, run_underlying Try.underlying56, MapKept.run_getObj_map hb, Try.law50.check w _ hl, h1, MapKept.run_setObj_map _ hb, Result.andThen]
    · rw [hsub]; exact fun e he => hk e ((hmem e).1 he).1
    · rw [hsub]; exact hp.sublist (List.eraseIdx_sublist _ _)
    · intro s' q' u
      rw [hsub]
      show (if s' = s ∧ q' = q then none else M s' q') = some u ↔ _
      by_cases e : s' = s ∧ q' = q
      · obtain ⟨rfl, rfl⟩ := e
        simp only [and_self, if_true]
        constructor
        · intro h; cases h
        · rintro ⟨x, hx, h5, _⟩; exact absurd h5 ((hmem x).1 hx).2
      · rw [if_neg e, hM]
        constructor
        · rintro ⟨x, hx, h5, h6⟩; exact ⟨x, (hmem x).2 ⟨hx, fun h7 => e (K_inj (h5.symm.trans h7))⟩, h5, h6⟩
        · rintro ⟨x, hx, h5, h6⟩; exact ⟨x, ((hmem x).1 hx).1, h5, h6⟩

end Go.Proofs.Qxb6605249a

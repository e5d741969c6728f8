/-
  THE WALKS OF raise, slices.Equal, slices.Clone.
-/
import Derived.Test.Qxb6605249aGraph
import Derived.Deep.LoopGhost
set_option linter.unusedVariables false
set_option linter.unusedSimpArgs false
namespace Go.Proofs.Qxb6605249a
open Go.RowKit

theorem grownBy_set {w w1 : World} {b : Nat} (h : w.grownBy w1 (some b)) (i : Nat) (v : Value) : w.grownBy (w1.setCell ⟨b, i, none⟩ v) (some b) :=
  ⟨h.os, h.tape, h.output, by simpa using h.size, fun k hk hne => by rw [heap_setCell_other _ _ _ _ (by simpa using hne)]; exact h.block k hk hne⟩

theorem raise_step {w wr : World} {tb n k : Nat} {a f : Nat → Nat} (hr : wr.rowIs tb 22 n (fun j => u64 (if j < k then max (a j) (f j) else a j)) ∧ w.grownBy wr (some tb)) (x : Nat) (hx : x = max (a k) (f k)) :
    (wr.setCell ⟨tb, k, none⟩ (.int .u64 x)).rowIs tb 22 n (fun j => u64 (if j < k + 1 then max (a j) (f j) else a j)) ∧ w.grownBy (wr.setCell ⟨tb, k, none⟩ (.int .u64 x)) (some tb) := by
  refine ⟨(hr.1.set k _).congr (fun j hj => ?_), grownBy_set hr.2 _ _⟩
  show (if j = k then Value.int .u64 (x : Int) else u64 (if j < k then max (a j) (f j) else a j)) = u64 (if j < k + 1 then max (a j) (f j) else a j)
  by_cases e : j = k
  · subst e; rw [if_pos rfl, if_pos (by omega), hx]; rfl
  · rw [if_neg e]
    by_cases h : j < k
    · rw [if_pos h, if_pos (by omega)]
    · rw [if_neg h, if_neg (by omega)]

set_option maxHeartbeats 400000 in
theorem raise_any (tb fb fo n c c' : Nat) (a f : Nat → Nat) (w : World) (ht : w.rowIs tb 22 n (fun k => u64 (a k))) (hf : Seg w fb fo n (fun k => u64 (f k))) (hne : fb ≠ tb) (hn : n ≤ 4096) (hfb : fb < w.heap.size) :
    Calls Try.prog 40 #[.slice (some ⟨tb, 0, none⟩) n c, .slice (some ⟨fb, fo, none⟩) n c'] w fun e w' => e = .returned (.tuple #[]) ∧ w'.rowIs tb 22 n (fun k => u64 (max (a k) (f k))) ∧ w.grownBy w' (some tb) := by
  go_enter Try.func40, Try.ntmps40
  go_wp2
  go_loopg [8] n (fun gk i wr => ∃ k : Nat, k + gk = n ∧ i = .int .i64 k ∧ (wr.rowIs tb 22 n (fun j => u64 (if j < k then max (a j) (f j) else a j)) ∧ w.grownBy wr (some tb)))
  case atStart => exact ⟨0, by omega, rfl, ht.congr (by simp), World.grownBy.refl _ _⟩
  case round =>
    obtain ⟨k, hk, rfl, hrow, hg⟩ := hrel
    by_cases hlt : k < n
    · have h1 : wr.cell? ⟨fb, fo + k, none⟩ = some (.int .u64 (f k)) := cell_keep (hg.block fb hfb (by simpa using hne)) (hf k hlt)
      have h2 : wr.cell? ⟨tb, k, none⟩ = some (.int .u64 (a k)) := by rw [hrow.cell hlt]; simp [u64]
      have h3 := hrow.frozen k
      have R1 : Hid (wr.rowIs tb 22 n (fun j => u64 (if j < k then max (a j) (f j) else a j)) ∧ w.grownBy wr (some tb)) := ⟨hrow, hg⟩
      clear hrow hg ht hf
      go_wp2
      all_goals
        go_roundg (gk - 1)
        case measure => omega
        case rel => exact ⟨k + 1, by omega, by go_num, raise_step R1.out _ (by omega)⟩
    · have R1 : Hid (wr.rowIs tb 22 n (fun j => u64 (if j < k then max (a j) (f j) else a j)) ∧ w.grownBy wr (some tb)) := ⟨hrow, hg⟩
      clear hrow hg ht hf
      go_wp2
      go_end0
      exact ⟨rfl, R1.out.1.congr (fun j hj => by rw [if_pos (by omega)]), R1.out.2⟩

/-- Two rows hold the same. -/
def sameTo (a f : Nat → Nat) (n : Nat) : Bool := (List.range n).all fun k => a k == f k

theorem sameTo_iff {a f : Nat → Nat} {n : Nat} : sameTo a f n = true ↔ ∀ k, k < n → a k = f k := by simp [sameTo, List.all_eq_true]

set_option maxHeartbeats 400000 in
theorem equal_any (tb to fb fo n c c' : Nat) (a f : Nat → Nat) (w : World) (ht : Seg w tb to n (fun k => u64 (a k))) (hf : Seg w fb fo n (fun k => u64 (f k))) (hn : n ≤ 4096) :
    Calls Try.prog 41 #[.slice (some ⟨tb, to, none⟩) n c, .slice (some ⟨fb, fo, none⟩) n c'] w fun e w' => e = .returned (.bool (sameTo a f n)) ∧ ∃ m, w' = w.drewN m := by
  go_enter Try.func41, Try.ntmps41
  go_wp2
  go_loopg [13] n (fun gk i wr => ∃ k : Nat, k + gk = n ∧ i = .int .i64 k ∧ (∀ j, j < k → a j = f j) ∧ ∃ m, wr = w.drewN m)
  case atStart => exact ⟨0, by omega, rfl, fun j hj => by omega, 0, rfl⟩
  case round =>
    obtain ⟨k, hk, rfl, hall, m, rfl⟩ := hrel
    have HA : Hid (∀ j, j < k → a j = f j) := hall
    clear hall
    by_cases hlt : k < n
    · have h1 : w.cell? ⟨tb, to + k, none⟩ = some (.int .u64 (a k)) := ht k hlt
      have h2 : w.cell? ⟨fb, fo + k, none⟩ = some (.int .u64 (f k)) := hf k hlt
      have hlt' : (k : Int) < (n : Int) := by omega
      clear ht hf
      by_cases heq : a k = f k
      · have HE : Hid (a k = f k) := heq
        have hb : ((a k : Int) != (f k : Int)) = false := by simp [heq]
        clear heq
        go_wp2
        go_quiet (fail)
        go_wp2
        go_roundg (gk - 1)
        case measure => omega
        case rel => exact ⟨k + 1, by omega, by go_num, fun j hj => by
          by_cases e : j = k
          · rw [e]; exact HE.out
          · exact HA.out j (by omega), m + nq, by simp⟩
      · have hb : ((a k : Int) != (f k : Int)) = true := by rw [bne_iff_ne]; omega
        have HE : Hid (sameTo a f n = false) := by
          show sameTo a f n = false
          cases hs : sameTo a f n with
          | false => rfl
          | true => exact absurd (sameTo_iff.1 hs k hlt) heq
        clear heq
        go_wp2
        go_quiet (fail)
        go_wp2
        go_ret
        exact ⟨by rw [HE.out]; rfl, m + nq, by simp⟩
    · have HE : Hid (sameTo a f n = true) := sameTo_iff.2 fun j hj => HA.out j (by omega)
      clear ht hf
      go_wp2
      go_ret
      exact ⟨by rw [HE.out]; rfl, _, rfl⟩

theorem src_seg {P : Program} {w : World} {t e : TypeId} (ht : P.underlying t = some (.slice e)) {b o n c : Nat} {f : Nat → Value} (h : Seg w b o n f) (h1 : ∀ i, i < n → (f i).oneCell' = true) :
    Src P 1 t (.slice (some ⟨b, o, none⟩) n c) n ((List.range n).map f) w :=
  Src.ofSlice w ht ⟨b, o, none⟩ n c _ (by simp) (fun j v hv => by
    have hj : j < n := by
      rcases Nat.lt_or_ge j n with h | h
      · exact h
      · rw [List.getElem?_eq_none (by simpa using h)] at hv; cases hv
    rw [show (⟨b, o, none⟩ : Addr).add j = ⟨b, o + j, none⟩ from by unfold Addr.add; split <;> simp_all, h j hj]
    simpa [hj] using hv) (fun u hu => by obtain ⟨i, hi, rfl⟩ := List.mem_map.1 hu; exact h1 i (by simpa using hi))

theorem seg_below {w w' : World} {b o n : Nat} {f : Nat → Value} (h : Seg w b o n f) (hb : b < w.heap.size) (hw : Below w.heap.size w w') : Seg w' b o n f := h.of_block (hw.block b hb)

set_option maxHeartbeats 400000 in
theorem clone_any (fb fo n c : Nat) (f : Nat → Nat) (w : World) (hf : Seg w fb fo n (fun k => u64 (f k))) (hn0 : 0 < n) (hn : n ≤ 4096) (hfb : fb < w.heap.size) :
    Calls Try.prog 42 #[.slice (some ⟨fb, fo, none⟩) n c] w fun e w' => ∃ b o c', e = .returned (.slice (some ⟨b, o, none⟩) n c') ∧ App w' 22 b o n c' (fun k => u64 (f k)) ∧ w.heap.size ≤ b ∧ Below w.heap.size w w' := by
  have hnil : ∀ w', (binOp .eql 24 (.slice (some ⟨fb, fo, none⟩) n c) (.slice none 0 0)).run Try.prog w' = .ok (.bool false) w' := fun w' => by
    simp [binOp, run_equal_slice_nil w' 24 22 _ _ _ Try.underlying24]
  have hbl : Below w.heap.size w (w.alloc (.cells #[] 22)) := (Below.refl _ _).alloc (Nat.le_refl _) _
  go_enter Try.func42, Try.ntmps42
  go_wp2_with (at_builtin; refine wpList_append_app rfl (.tmp 5) (.tmp 6) 24 rfl 22 (.int .u64 0) 8 Try.underlying24 Try.info22 rfl _ rfl 0 (fun _ => undef) ?hv _ rfl n ((List.range n).map (fun k => u64 (f k))) ?hs hn0 (by omega) (by omega) ?_)
  case hv => exact .inr ⟨w.heap.size, 0, 0, rfl, ⟨⟨#[], heap_alloc_new w _, by simp⟩, Nat.le_refl _, fun i hi => by omega⟩⟩
  case hs => exact src_seg Try.underlying24 (seg_below hf hfb hbl) (fun i _ => rfl)
  · intro b o' cap w' hA hat hg hlt
    clear hnil
    go_wp2
    go_ret
    refine ⟨b, o', cap, rfl, hA.congr (fun i hi => by simp [hi]), ?_, ?_⟩
    · rcases hat with h | h
      · simp [Value.ownBlock] at h; omega
      · omega
    · exact hbl.trans ((Below.refl _ _).grown hg (by simp) (fun k hk => by simp [Value.ownBlock] at hk; omega))

end Go.Proofs.Qxb6605249a

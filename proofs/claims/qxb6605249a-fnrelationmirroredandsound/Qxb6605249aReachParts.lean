/-
  WHAT zzReach MARKS, AND THE STATES THAT ITS WALK GOES THROUGH.
-/
import Derived.Test.Qxb6605249aPos
set_option linter.unusedVariables false
set_option linter.unusedSimpArgs false
namespace Go.Proofs.Qxb6605249a
open Go.RowKit

/-- Delivery i names delivery p. -/
def EdgeP (L : Nat) (J S : Nat → Nat) (m : Nat → Nat) (X Y : Nat → Nat → Nat) (i p : Nat) : Prop :=
  (1 < S i ∧ p = posTo J L (J i) (S i - 2)) ∨ ∃ k, k < m i ∧ p = posTo J L (X i k) (Y i k - 1)

/-- From a one comes to b. -/
def Reach (E : Nat → Nat → Prop) (a b : Nat) : Prop := ∀ P : Nat → Prop, P a → (∀ x y, P x → E x y → P y) → P b

theorem Reach.refl {E : Nat → Nat → Prop} (a : Nat) : Reach E a a := fun _ h _ => h
theorem Reach.step {E : Nat → Nat → Prop} {a b c : Nat} (h : Reach E a b) (e : E b c) : Reach E a c := fun P h0 h1 => h1 b c (h P h0 h1) e
theorem Reach.trans {E : Nat → Nat → Prop} {a b c : Nat} (h : Reach E a b) (k : Reach E b c) : Reach E a c := fun P h0 h1 => k P (h P h0 h1) h1

def unseen (sn : Nat → Bool) : Nat → Nat
  | 0 => 0
  | i + 1 => unseen sn i + if sn i then 0 else 1

theorem unseen_le (sn : Nat → Bool) : ∀ L, unseen sn L ≤ L
  | 0 => Nat.le_refl _
  | i + 1 => by have := unseen_le sn i; unfold unseen; split <;> omega

def mark (sn : Nat → Bool) (p : Nat) : Nat → Bool := fun i => if i = p then true else sn i

theorem unseen_mark_out (sn : Nat → Bool) (p : Nat) : ∀ L, L ≤ p → unseen (mark sn p) L = unseen sn L
  | 0, _ => rfl
  | i + 1, h => by
    rw [unseen, unseen, unseen_mark_out sn p i (by omega)]
    have : mark sn p i = sn i := by unfold mark; rw [if_neg (by omega)]
    rw [this]

theorem unseen_mark (sn : Nat → Bool) (p : Nat) (hp : sn p = false) : ∀ L, p < L → unseen (mark sn p) L + 1 = unseen sn L
  | 0, h => by omega
  | i + 1, h => by
    rw [unseen, unseen]
    by_cases e : i = p
    · subst e
      rw [unseen_mark_out sn i i (Nat.le_refl _), hp]
      have : mark sn i i = true := by unfold mark; rw [if_pos rfl]
      rw [this]
      simp
    · have := unseen_mark sn p hp i (by omega)
      have h2 : mark sn p i = sn i := by unfold mark; rw [if_neg e]
      rw [h2]
      omega

/-- The search's own state: what is marked, what lies on the stack. Node 'busy' is being looked at. -/
structure RL (L frm : Nat) (E : Nat → Nat → Prop) (sn : Nat → Bool) (len : Nat) (f : Nat → Nat) (busy : Nat) : Prop where
  few : len + unseen sn L ≤ L
  st : ∀ k, k < len → f k < L ∧ sn (f k) = true
  re : ∀ i, i < L → sn i = true → Reach E frm i
  clo : ∀ i, i < L → sn i = true → i ≠ busy → (∃ k, k < len ∧ f k = i) ∨ ∀ p, E i p → sn p = true
  fr : sn frm = true

theorem RL.start {L frm : Nat} {E : Nat → Nat → Prop} (h : frm < L) : RL L frm E (mark (fun _ => false) frm) 1 (fun _ => frm) L :=
  { few := by
      have := unseen_mark (fun _ => false) frm rfl L h
      have := unseen_le (fun _ => false) L
      omega
    st := fun k hk => ⟨h, by simp [mark]⟩
    re := fun i hi hs => by
      have : i = frm := by
        by_cases e : i = frm
        · exact e
        · simp [mark, e] at hs
      rw [this]; exact Reach.refl _
    clo := fun i hi hs _ => by
      have : i = frm := by
        by_cases e : i = frm
        · exact e
        · simp [mark, e] at hs
      exact .inl ⟨0, by omega, this.symm⟩
    fr := by simp [mark] }

theorem RL.pop {L frm : Nat} {E : Nat → Nat → Prop} {sn : Nat → Bool} {len : Nat} {f : Nat → Nat} (h : RL L frm E sn (len + 1) f L) : RL L frm E sn len f (f len) :=
  { few := by have := h.few; omega
    st := fun k hk => h.st k (by omega)
    re := h.re
    clo := fun i hi hs hne => by
      rcases h.clo i hi hs (by omega) with ⟨k, hk, e⟩ | hc
      · refine .inl ⟨k, ?_, e⟩
        by_cases e2 : k = len
        · subst e2; exact absurd e.symm hne
        · omega
      · exact .inr hc
    fr := h.fr }

theorem RL.push {L frm : Nat} {E : Nat → Nat → Prop} {sn : Nat → Bool} {len : Nat} {f : Nat → Nat} {busy p : Nat} (h : RL L frm E sn len f busy) (hp : p < L) (hs : sn p = false) (hr : Reach E frm p) :
    RL L frm E (mark sn p) (len + 1) (fun k => if k < len then f k else p) busy :=
  { few := by have := h.few; have := unseen_mark sn p hs L hp; omega
    st := fun k hk => by
      by_cases e : k < len
      · rw [if_pos e]
        have := h.st k e
        refine ⟨this.1, ?_⟩
        unfold mark
        split
        · rfl
        · exact this.2
      · rw [if_neg e]; exact ⟨hp, by simp [mark]⟩
    re := fun i hi hi2 => by
      by_cases e : i = p
      · rw [e]; exact hr
      · simp [mark, e] at hi2; exact h.re i hi hi2
    clo := fun i hi hi2 hne => by
      by_cases e : i = p
      · exact .inl ⟨len, by omega, by rw [if_neg (by omega), e]⟩
      · simp [mark, e] at hi2
        rcases h.clo i hi hi2 hne with ⟨k, hk, e2⟩ | hc
        · exact .inl ⟨k, by omega, by rw [if_pos hk, e2]⟩
        · refine .inr fun q hq => ?_
          have := hc q hq
          unfold mark
          split
          · rfl
          · exact this
    fr := by
      unfold mark
      split
      · rfl
      · exact h.fr }

theorem mark_keeps {sn : Nat → Bool} {p q : Nat} (h : sn q = true) : mark sn p q = true := by
  unfold mark
  split
  · rfl
  · exact h

theorem RL.leave {L frm : Nat} {E : Nat → Nat → Prop} {sn : Nat → Bool} {len : Nat} {f : Nat → Nat} {i : Nat} (h : RL L frm E sn len f i) (hc : ∀ p, E i p → sn p = true) : RL L frm E sn len f L :=
  { few := h.few, st := h.st, re := h.re, fr := h.fr
    clo := fun x hx hs _ => by
      by_cases e : x = i
      · exact .inr (by rw [e]; exact hc)
      · exact h.clo x hx hs e }

theorem RL.done {L frm : Nat} {E : Nat → Nat → Prop} {sn : Nat → Bool} {f : Nat → Nat} (h : RL L frm E sn 0 f L) (hf : frm < L) (hE : ∀ i p, i < L → E i p → p < L) : ∀ i, i < L → (sn i = true ↔ Reach E frm i) := fun i hi =>
  ⟨h.re i hi, fun hr => (hr (fun x => x < L ∧ sn x = true) ⟨hf, h.fr⟩ (fun x y hx e => by
    refine ⟨hE x y hx.1 e, ?_⟩
    rcases h.clo x hx.1 hx.2 (by omega) with ⟨k, hk, _⟩ | hc
    · omega
    · exact hc y e)).2⟩

/-- The search's memory: the marks in the block that was made first, the stack. -/
structure RSt (w : World) (L : Nat) (wr : World) (sn : Nat → Bool) (b o len cap : Nat) (f : Nat → Nat) : Prop where
  row : wr.rowIs w.heap.size 4 L (fun i => .bool (sn i))
  app : App wr 3 b o len cap (fun k => .int .i64 (f k))
  hb : w.heap.size < b
  bel : Below w.heap.size w wr

theorem run_make_marks (L : Nat) (hL : L ≤ 4096) (w : World) : (Instr.makeSlice 35 (.int .i64 (L : Int)) (.int .i64 (L : Int))).run Try.prog w =
    .ok (.slice (some ⟨w.heap.size, 0, none⟩) L L) (w.alloc (.cells (madeCells #[.bool false] L) 4)) := by
  obtain ⟨i, hi, hz, hs, hb⟩ := info_parts Try.info4
  have hr := run_make (P := Try.prog) w 35 4 i _ Try.underlying35 hi hz .i64 .i64 L L (by omega) (Int.le_refl _) (by rw [hb]; omega) (by omega)
  simp only [Int.toNat_natCast, hs, Nat.mul_one] at hr
  exact hr

theorem run_make_stack (L : Nat) (hL : L ≤ 4096) (w : World) : (Instr.makeSlice 23 (.int .i64 0) (.int .i64 (L : Int))).run Try.prog w =
    .ok (.slice (some ⟨w.heap.size, 0, none⟩) 0 L) (w.alloc (.cells (madeCells #[.int .i64 0] L) 3)) := by
  obtain ⟨i, hi, hz, hs, hb⟩ := info_parts Try.info3
  have hr := run_make (P := Try.prog) w 23 3 i _ Try.underlying23 hi hz .i64 .i64 0 L (by omega) (by omega) (by rw [hb]; omega) (by omega)
  simp only [Int.toNat_natCast, hs, Nat.mul_one] at hr
  exact hr

theorem rst_start (w : World) (L : Nat) : RSt w L ((w.alloc (.cells (madeCells #[.bool false] L) 4)).alloc (.cells (madeCells #[.int .i64 0] L) 3)) (fun _ => false) (w.heap.size + 1) 0 0 L (fun _ => 0) :=
  { row := by
      refine World.rowIs.of_block (w := w.alloc (.cells (madeCells #[.bool false] L) 4)) ?_ ?_
      · exact ⟨_, heap_alloc_new w _, size_madeCells _ _, fun i hi => by simp [madeCells, hi, Nat.mod_one]⟩
      · exact ((Below.refl _ _).alloc (Nat.le_refl _) _).block _ (by simp)
    app := by
      refine ⟨⟨madeCells #[.int .i64 0] L, ?_, ?_⟩, Nat.zero_le _, fun i hi => by omega⟩
      · have := heap_alloc_new (w.alloc (.cells (madeCells #[.bool false] L) 4)) (.cells (madeCells #[.int .i64 0] L) 3)
        simpa using this
      · rw [size_madeCells]; omega
    hb := by omega
    bel := ((Below.refl _ _).alloc (Nat.le_refl _) _).alloc (by simp) _ }

theorem rst_drewN {w : World} {L : Nat} {wr : World} {sn : Nat → Bool} {b o len cap : Nat} {f : Nat → Nat} (h : RSt w L wr sn b o len cap f) (m : Nat) : RSt w L (wr.drewN m) sn b o len cap f :=
  { row := h.row.of_block (by rw [World.heap_drewN]), app := h.app.of_block (by rw [World.heap_drewN]), hb := h.hb, bel := below_drewN h.bel m }

theorem RSt.src {w : World} (p : Nat) : Src Try.prog 1 23 (.slice (some ⟨w.heap.size, 0, none⟩) 1 1) 1 [.int .i64 (p : Int)] (w.alloc (.cells #[.int .i64 (p : Int)] 3)) :=
  Src.ofSlice _ Try.underlying23 ⟨w.heap.size, 0, none⟩ 1 1 _ (by simp) (World.news_of_block (cs := #[.int .i64 (p : Int)]) (t := 3) (fr := (0, 0)) (heap_alloc_new w _)) (by simp [Value.oneCell'])

theorem RSt.appv {w : World} {L : Nat} {wr : World} {sn : Nat → Bool} {b o len cap : Nat} {f : Nat → Nat} (h : RSt w L wr sn b o len cap f) (p : Nat) :
    AppV ((wr.setCell ⟨w.heap.size, p, none⟩ (.bool true)).alloc (.cells #[.int .i64 (p : Int)] 3)) 3 (.slice (some ⟨b, o, none⟩) len cap) len (fun k => .int .i64 (f k)) := by
  refine .inr ⟨b, o, cap, rfl, h.app.of_block ?_⟩
  have h1 := h.app.lt
  have h2 := h.hb
  have k := ((Below.refl (wr.setCell ⟨w.heap.size, p, none⟩ (.bool true)).heap.size (wr.setCell ⟨w.heap.size, p, none⟩ (.bool true))).alloc (Nat.le_refl _) (.cells #[.int .i64 (p : Int)] 3)).block b (by simpa [World.setCell] using h1)
  rw [k]
  exact heap_setCell_other _ _ _ _ (by simp; omega)

theorem rst_push {w : World} {L : Nat} {wr : World} {sn : Nat → Bool} {b o len cap : Nat} {f : Nat → Nat} (h : RSt w L wr sn b o len cap f) {p : Nat} (hp : p < L) {w3 : World} {b' o' cap' : Nat}
    (hA : App w3 3 b' o' (len + 1) cap' (fun k => if k < len then (fun k => Value.int .i64 (f k)) k else [Value.int .i64 (p : Int)].getD (k - len) undef))
    (hown : (Value.slice (some ⟨b, o, none⟩) len cap).ownBlock = some b' ∨ b' = ((wr.setCell ⟨w.heap.size, p, none⟩ (.bool true)).alloc (.cells #[.int .i64 (p : Int)] 3)).heap.size)
    (hg : ((wr.setCell ⟨w.heap.size, p, none⟩ (.bool true)).alloc (.cells #[.int .i64 (p : Int)] 3)).grownBy w3 (Value.slice (some ⟨b, o, none⟩) len cap).ownBlock) :
    RSt w L w3 (mark sn p) b' o' (len + 1) cap' (fun k => if k < len then f k else p) := by
  have lr := h.row.lt
  have hb := h.hb
  have hob : (Value.slice (some ⟨b, o, none⟩) len cap).ownBlock = some b := rfl
  rw [hob] at hown hg
  have hsz : ((wr.setCell ⟨w.heap.size, p, none⟩ (.bool true)).alloc (.cells #[.int .i64 (p : Int)] 3)).heap.size = wr.heap.size + 1 := by simp [World.setCell]
  have hrow := (h.row.set p (.bool true))
  have hblk : w3.heap[w.heap.size]? = (wr.setCell ⟨w.heap.size, p, none⟩ (.bool true)).heap[w.heap.size]? := by
    rw [hg.block w.heap.size (by rw [hsz]; omega) (by simp; omega)]
    exact ((Below.refl (wr.setCell ⟨w.heap.size, p, none⟩ (.bool true)).heap.size _).alloc (Nat.le_refl _) _).block _ (by simpa [World.setCell] using lr)
  exact
    { row := (hrow.of_block hblk).congr fun i hi => by
        show (if i = p then Value.bool true else Value.bool (sn i)) = Value.bool (mark sn p i)
        unfold mark
        split <;> rfl
      app := hA.congr fun k hk => by
        by_cases e : k < len
        · rw [if_pos e, if_pos e]
        · have : k = len := by omega
          rw [if_neg e, if_neg e, this, Nat.sub_self]; rfl
      hb := by
        rcases hown with e | e
        · simp at e; omega
        · rw [hsz] at e; omega
      bel := (((h.bel.setCell (p := ⟨w.heap.size, p, none⟩) (Nat.le_refl _) _).alloc (by simpa [World.setCell] using Nat.le_of_lt lr) _)).grown hg (by rw [hsz]; omega) (fun k e => by simp at e; omega) }

end Go.Proofs.Qxb6605249a

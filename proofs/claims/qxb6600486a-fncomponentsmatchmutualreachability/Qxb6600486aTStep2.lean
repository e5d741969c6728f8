/-
  A CLASS IS TAKEN OFF THE STACK, AND LISTED: the memory.
-/
import Derived.Test.Qxb6600486aTStep
set_option linter.unusedVariables false
set_option linter.unusedSimpArgs false
namespace Go.Proofs.Qxb6600486a
open Go.RowKit

variable {w : World} {n m pb : Nat} {A : Nat → Nat → Prop} {F G : Nat → Nat} {wr wr' : World} {s s2 : TS} {N N2 : TN}

/-- In the midst of the taking: j nodes are off. -/
structure CB (w : World) (n pb : Nat) (wB : World) (s2 : TS) (N2 : TN) (sb so sc : Nat) (wr : World) (j : Nat) (on' : Nat → Bool) (cv : Value) : Prop where
  tm : TM w n pb wr { s2 with S := s2.S - j, on := on' } { N2 with sv := .slice (some ⟨sb, so, none⟩) (s2.S - j) sc }
  app : AppV wr 3 cv j (fun i => .int .i64 (s2.st (s2.S - 1 - i)))
  ob : ∀ b, cv.ownBlock = some b → wB.heap.size ≤ b ∧ b < wr.heap.size
  sz : wB.heap.size ≤ wr.heap.size
  own : N2.sv.ownBlock = some sb
  hiB : ∀ b, N2.owns b → b < wB.heap.size
  ons : ∀ x, on' x = true ↔ s2.on x = true ∧ ∀ i, i < j → s2.st (s2.S - 1 - i) ≠ x

theorem cb_start (H : TM w n pb wr s2 N2) {sb so sc : Nat} (hsv : N2.sv = .slice (some ⟨sb, so, none⟩) s2.S sc) : CB w n pb wr s2 N2 sb so sc wr 0 s2.on (.slice none 0 0) :=
  { tm := by
      have e1 : ({ s2 with S := s2.S - 0, on := s2.on } : TS) = s2 := rfl
      have e2 : ({ N2 with sv := .slice (some ⟨sb, so, none⟩) (s2.S - 0) sc } : TN) = N2 := by
        rw [Nat.sub_zero, ← hsv]
      rw [e1, e2]; exact H
    app := .inl ⟨rfl, rfl⟩
    ob := fun b e => (by cases e)
    sz := Nat.le_refl _
    own := by rw [hsv]; rfl
    hiB := fun b e => (H.lists.hi b e).2
    ons := fun x => ⟨fun h => ⟨h, fun i hi => by omega⟩, fun h => h.1⟩ }

theorem CB.owns {wB : World} {sb so sc j : Nat} {on' : Nat → Bool} {cv : Value} (H : CB w n pb wB s2 N2 sb so sc wr j on' cv) {l b : Nat} (h : ({ N2 with sv := .slice (some ⟨sb, so, none⟩) l sc } : TN).owns b) : N2.owns b := by
  rcases h with h | h
  · left
    have h' : some sb = some b := h
    rw [H.own]; exact h'
  · exact .inr h

theorem cb_round {wB : World} {sb so sc j : Nat} {on' : Nat → Bool} {cv : Value} (H : CB w n pb wB s2 N2 sb so sc wr j on' cv) (hj : j < s2.S) {y : Nat} (hy : y = s2.st (s2.S - 1 - j)) {l : Nat} (hl : s2.S - j = l + 1) {w3 : World}
    (hw3 : w3 = (wr.setCell ⟨w.heap.size + 7, 0, none⟩ (.slice (some ⟨sb, so, none⟩) l sc)).setCell ⟨w.heap.size + 5, y, none⟩ (.bool false))
    {w5 : World} {b' o' cap' : Nat} (hA : App w5 3 b' o' (j + 1) cap' (fun k => if k < j then (fun i => Value.int .i64 (s2.st (s2.S - 1 - i))) k else [Value.int .i64 (y : Int)].getD (k - j) undef))
    (hown : cv.ownBlock = some b' ∨ b' = (w3.alloc (.cells #[.int .i64 (y : Int)] 3)).heap.size) (hg : (w3.alloc (.cells #[.int .i64 (y : Int)] 3)).grownBy w5 cv.ownBlock) :
    CB w n pb wB s2 N2 sb so sc w5 (j + 1) (upd on' y false) (.slice (some ⟨b', o', none⟩) (j + 1) cap') := by
  have hl' : s2.S - (j + 1) = l := by omega
  have t1 := H.tm.cutS (b := sb) (o := so) (cap := sc) rfl l (by show l ≤ s2.S - j; omega)
  have t2 := t1.setO y false
  rw [← hw3] at t2
  have hal : (w3.alloc (.cells #[.int .i64 (y : Int)] 3)).heap.size = w3.heap.size + 1 := by simp
  have hs3 : w3.heap.size = wr.heap.size := by rw [hw3]; simp [World.setCell]
  have hsz := H.sz
  have h5 := hg.size
  have hb3 : Below w3.heap.size w3 (w3.alloc (.cells #[.int .i64 (y : Int)] 3)) := (Below.refl _ _).alloc (Nat.le_refl _) _
  have h10 := t2.rows.lt
  have hcv : ∀ b, b < wB.heap.size → cv.ownBlock ≠ some b := fun b hb e => by have := (H.ob b e).1; omega
  have hB10 : w.heap.size + 10 ≤ wB.heap.size := by
    have := (H.tm.lists.hi sb (.inl rfl)).1
    have := H.hiB sb (.inl H.own)
    omega
  have hkeep : ∀ b, b < wB.heap.size → w5.heap[b]? = w3.heap[b]? := fun b hb => by
    rw [hg.block b (by rw [hal]; omega) (fun e => hcv b hb e.symm)]
    exact hb3.block b (by omega)
  have hb' : wB.heap.size ≤ b' := by
    rcases hown with e | e
    · exact (H.ob b' e).1
    · rw [hal] at e; omega
  have hbel : Below w.heap.size w w5 := ((t2.bel.alloc (by omega) _)).grown hg (by rw [hal]; omega) (fun k e => by have := (H.ob k e).1; omega)
  refine { tm := ?_, app := .inr ⟨b', o', cap', rfl, hA.congr fun k hk => ?_⟩, ob := fun b e => ?_, sz := by omega, own := H.own, hiB := H.hiB, ons := fun x => ?_ }
  · rw [hl']
    refine t2.keep (by omega) (fun b hb1 hb2 => hkeep b ?_) hbel
    rcases hb2 with hb2 | hb2
    · omega
    · exact H.hiB b (H.owns hb2)
  · by_cases e : k < j
    · rw [if_pos e]
    · have : k = j := by omega
      rw [if_neg e, this, Nat.sub_self, hy]; rfl
  · have e' : some b' = some b := e
    cases e'
    exact ⟨hb', hA.lt⟩
  · by_cases e : x = y
    · rw [e, upd_same]
      constructor
      · intro h; cases h
      · rintro ⟨_, h⟩; exact absurd hy.symm (h j (by omega))
    · rw [upd_ne e, H.ons x]
      constructor
      · rintro ⟨h1, h2⟩
        refine ⟨h1, fun i hi => ?_⟩
        by_cases ei : i = j
        · rw [ei, ← hy]; exact fun e2 => e e2.symm
        · exact h2 i (by omega)
      · rintro ⟨h1, h2⟩
        exact ⟨h1, fun i hi => h2 i (by omega)⟩

/-- One more class is listed. -/
theorem tm_pushO (H : TM w n pb wr s N) {b o len cap : Nat} {f : Nat → Nat} (hseg : Seg wr b o len (fun i => iv (f i))) (hb1 : w.heap.size + 10 ≤ b) (hb2 : b < wr.heap.size) (hb3 : ¬ N.owns b)
    {w3 : World} {b' o' cap' : Nat}
    (hA : App w3 22 b' o' (N.K + 1) cap' (fun k => if k < N.K then (fun c => Value.slice (some ⟨N.cb c, N.co c, none⟩) (N.ln c) (N.cc c)) k else [Value.slice (some ⟨b, o, none⟩) len cap].getD (k - N.K) undef))
    (hown : N.ov.ownBlock = some b' ∨ b' = (wr.alloc (.cells #[.slice (some ⟨b, o, none⟩) len cap] 22)).heap.size)
    (hg : (wr.alloc (.cells #[.slice (some ⟨b, o, none⟩) len cap] 22)).grownBy w3 N.ov.ownBlock) :
    TM w n pb w3 s { N with ov := .slice (some ⟨b', o', none⟩) (N.K + 1) cap', K := N.K + 1, cb := upd N.cb N.K b, co := upd N.co N.K o, cc := upd N.cc N.K cap, ln := upd N.ln N.K len, C := upd N.C N.K f } := by
  have hsz : (wr.alloc (.cells #[.slice (some ⟨b, o, none⟩) len cap] 22)).heap.size = wr.heap.size + 1 := by simp
  have hlt := hA.lt
  have hs3 := hg.size
  have h10 := H.rows.lt
  have hkeep : ∀ x, x < wr.heap.size → N.ov.ownBlock ≠ some x → w3.heap[x]? = wr.heap[x]? := fun x hx hne => by
    rw [hg.block x (by rw [hsz]; omega) (fun e => hne e.symm)]
    exact ((Below.refl wr.heap.size wr).alloc (Nat.le_refl _) _).block x hx
  have hlo : ∀ x, N.owns x → x < wr.heap.size := fun x hx => (H.lists.hi x hx).2
  have hb'1 : w.heap.size + 10 ≤ b' := by
    rcases hown with e | e
    · exact (H.lists.hi b' (.inr (.inr (.inl e)))).1
    · rw [hsz] at e; omega
  have hb'b : b' ≠ b := fun e => by
    rcases hown with e2 | e2
    · rw [e] at e2; exact hb3 (.inr (.inr (.inl e2)))
    · rw [hsz] at e2; omega
  have hnew : ∀ x, N.owns x → N.ov.ownBlock ≠ some x → b' ≠ x := fun x hx hne e => by
    rcases hown with e2 | e2
    · rw [e] at e2; exact hne e2
    · rw [hsz] at e2; have := hlo x hx; omega
  have hsv : ∀ x, N.sv.ownBlock = some x → N.ov.ownBlock ≠ some x := fun x hx => (H.lists.d1 x hx).2.1
  have hkv : ∀ x, N.kv.ownBlock = some x → N.ov.ownBlock ≠ some x := fun x hx => (H.lists.d2 x hx).1
  have hcb : ∀ c, c < N.K → N.ov.ownBlock ≠ some (N.cb c) := fun c hc e => H.lists.d3 _ e c hc rfl
  refine { rows := ?_, lists := ?_, bel := ?_ }
  · have := H.rows.keep (wr' := w3) fun k hk => hkeep _ (by omega) (fun e => by have := (H.lists.hi _ (.inr (.inr (.inl e)))).1; omega)
    exact this
  · refine { st := H.lists.st.of_block fun x e => hkeep x (hlo x (.inl e)) (hsv x e), ks := H.lists.ks.of_block fun x e => hkeep x (hlo x (.inr (.inl e))) (hkv x e), out := .inr ⟨b', o', cap', rfl, hA.congr fun k hk => ?_⟩, cls := fun c hc => ?_, hi := fun x hx => ?_, d1 := fun x hx => ?_, d2 := fun x hx => ?_, d3 := fun x hx c hc => ?_ }
    · show _ = Value.slice (some ⟨upd N.cb N.K b k, upd N.co N.K o k, none⟩) (upd N.ln N.K len k) (upd N.cc N.K cap k)
      by_cases e : k = N.K
      · rw [if_neg (by omega), e, Nat.sub_self, upd_same, upd_same, upd_same, upd_same]; rfl
      · rw [if_pos (by omega), upd_ne e, upd_ne e, upd_ne e, upd_ne e]
    · have hc' : c < N.K + 1 := hc
      show Seg w3 (upd N.cb N.K b c) (upd N.co N.K o c) (upd N.ln N.K len c) (fun i => iv (upd N.C N.K f c i))
      by_cases e : c = N.K
      · rw [e, upd_same, upd_same, upd_same, upd_same]
        exact hseg.of_block (hkeep b hb2 (fun e2 => hb3 (.inr (.inr (.inl e2)))))
      · rw [upd_ne e, upd_ne e, upd_ne e, upd_ne e]
        exact (H.lists.cls c (by omega)).of_block (hkeep _ (hlo _ (.inr (.inr (.inr ⟨c, by omega, rfl⟩)))) (hcb c (by omega)))
    · rcases hx with hx | hx | hx | ⟨c, hc, hx⟩
      · have := H.lists.hi x (.inl hx); exact ⟨this.1, by omega⟩
      · have := H.lists.hi x (.inr (.inl hx)); exact ⟨this.1, by omega⟩
      · have hx' : some b' = some x := hx
        cases hx'
        exact ⟨hb'1, hlt⟩
      · have hc' : c < N.K + 1 := hc
        have hx' : upd N.cb N.K b c = x := hx
        by_cases e : c = N.K
        · rw [e, upd_same] at hx'
          rw [← hx']; exact ⟨hb1, by omega⟩
        · rw [upd_ne e] at hx'
          have := H.lists.hi x (.inr (.inr (.inr ⟨c, by omega, hx'⟩)))
          exact ⟨this.1, by omega⟩
    · have hx' : N.sv.ownBlock = some x := hx
      refine ⟨(H.lists.d1 x hx').1, fun e => ?_, fun c hc => ?_⟩
      · have e' : some b' = some x := e
        cases e'
        exact hnew b' (.inl hx') (hsv b' hx') rfl
      · have hc' : c < N.K + 1 := hc
        show upd N.cb N.K b c ≠ x
        by_cases e : c = N.K
        · rw [e, upd_same]; exact fun e2 => hb3 (.inl (by rw [e2]; exact hx'))
        · rw [upd_ne e]; exact (H.lists.d1 x hx').2.2 c (by omega)
    · have hx' : N.kv.ownBlock = some x := hx
      refine ⟨fun e => ?_, fun c hc => ?_⟩
      · have e' : some b' = some x := e
        cases e'
        exact hnew b' (.inr (.inl hx')) (hkv b' hx') rfl
      · have hc' : c < N.K + 1 := hc
        show upd N.cb N.K b c ≠ x
        by_cases e : c = N.K
        · rw [e, upd_same]; exact fun e2 => hb3 (.inr (.inl (by rw [e2]; exact hx')))
        · rw [upd_ne e]; exact (H.lists.d2 x hx').2 c (by omega)
    · have hx' : some b' = some x := hx
      cases hx'
      have hc' : c < N.K + 1 := hc
      show upd N.cb N.K b c ≠ b'
      by_cases e : c = N.K
      · rw [e, upd_same]; exact fun e2 => hb'b e2.symm
      · rw [upd_ne e]; exact fun e2 => hnew _ (.inr (.inr (.inr ⟨c, by omega, rfl⟩))) (hcb c (by omega)) e2.symm
  · exact (H.bel.alloc (by omega) _).grown hg (by rw [hsz]; omega) (fun k e => by have := (H.lists.hi k (.inr (.inr (.inl e)))).1; omega)

end Go.Proofs.Qxb6600486a

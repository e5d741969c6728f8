/-
  THE WALK OF mutualClasses (12).
-/
import Derived.Test.Qxb6600486aReach
set_option linter.unusedVariables false
set_option linter.unusedSimpArgs false
namespace Go.Proofs.Qxb6600486a
open Go.RowKit

/-- Each is reached from the other. -/
def Mut (A : Nat → Nat → Prop) (u v : Nat) : Prop := Reach A u v ∧ Reach A v u

theorem Mut.refl {A : Nat → Nat → Prop} (u : Nat) : Mut A u u := ⟨Reach.refl _, Reach.refl _⟩
theorem Mut.symm {A : Nat → Nat → Prop} {u v : Nat} (h : Mut A u v) : Mut A v u := ⟨h.2, h.1⟩
theorem Mut.trans {A : Nat → Nat → Prop} {u v x : Nat} (h : Mut A u v) (k : Mut A v x) : Mut A u x := ⟨h.1.trans k.1, k.2.trans h.2⟩

/-- The members of u's class below v, in increasing order. -/
structure Lst (A : Nat → Nat → Prop) (u v len : Nat) (f : Nat → Nat) : Prop where
  mem : ∀ i, i < len → f i < v ∧ Mut A u (f i)
  all : ∀ x, x < v → Mut A u x → ∃ i, i < len ∧ f i = x
  inc : ∀ i j, i < j → j < len → f i < f j
  le : len ≤ v

theorem Lst.start {A : Nat → Nat → Prop} (u : Nat) (f : Nat → Nat) : Lst A u 0 0 f := { mem := fun i hi => by omega, all := fun x hx => by omega, inc := fun i j h1 h2 => by omega, le := Nat.le_refl _ }

theorem Lst.skip {A : Nat → Nat → Prop} {u v len : Nat} {f : Nat → Nat} (h : Lst A u v len f) (hn : ¬ Mut A u v) : Lst A u (v + 1) len f :=
  { mem := fun i hi => ⟨by have := (h.mem i hi).1; omega, (h.mem i hi).2⟩
    all := fun x hx hm => by
      by_cases e : x = v
      · rw [e] at hm; exact absurd hm hn
      · exact h.all x (by omega) hm
    inc := h.inc, le := by have := h.le; omega }

theorem Lst.push {A : Nat → Nat → Prop} {u v len : Nat} {f : Nat → Nat} (h : Lst A u v len f) (hm : Mut A u v) : Lst A u (v + 1) (len + 1) (fun i => if i < len then f i else v) :=
  { mem := fun i hi => by
      by_cases e : i < len
      · rw [if_pos e]; exact ⟨by have := (h.mem i e).1; omega, (h.mem i e).2⟩
      · rw [if_neg e]; exact ⟨by omega, hm⟩
    all := fun x hx hx2 => by
      by_cases e : x = v
      · exact ⟨len, by omega, by rw [if_neg (by omega), e]⟩
      · obtain ⟨i, h1, h2⟩ := h.all x (by omega) hx2
        exact ⟨i, by omega, by rw [if_pos h1, h2]⟩
    inc := fun i j h1 h2 => by
      by_cases e : j < len
      · rw [if_pos (by omega), if_pos e]; exact h.inc i j h1 e
      · rw [if_pos (by omega), if_neg e]; exact (h.mem i (by omega)).1
    le := by have := h.le; omega }

/-- The classes of more than one node that are listed when all nodes below t are seen to. -/
structure Cls (A : Nat → Nat → Prop) (n t K : Nat) (ln : Nat → Nat) (C : Nat → Nat → Nat) : Prop where
  big : ∀ c, c < K → 1 < ln c
  lst : ∀ c, c < K → Lst A (C c 0) n (ln c) (C c)
  low : ∀ c, c < K → C c 0 < t
  ord : ∀ c d, c < d → d < K → C c 0 < C d 0
  all : ∀ x y, x < n → y < n → x ≠ y → Mut A x y → (∃ u, u < t ∧ Mut A u x) → ∃ c, c < K ∧ ∃ i, i < ln c ∧ C c i = x
  few : K ≤ t

theorem Cls.start (A : Nat → Nat → Prop) (n : Nat) (ln : Nat → Nat) (C : Nat → Nat → Nat) : Cls A n 0 0 ln C :=
  { big := fun c hc => by omega, lst := fun c hc => by omega, low := fun c hc => by omega, ord := fun c d h1 h2 => by omega, all := fun x y _ _ _ _ ⟨u, hu, _⟩ => by omega, few := Nat.le_refl _ }

theorem Cls.skip {A : Nat → Nat → Prop} {n t K : Nat} {ln : Nat → Nat} {C : Nat → Nat → Nat} (h : Cls A n t K ln C) (hs : (∃ u, u < t ∧ Mut A u t) ∨ ∀ y, y < n → Mut A t y → y = t) : Cls A n (t + 1) K ln C :=
  { big := h.big, lst := h.lst, low := fun c hc => by have := h.low c hc; omega, ord := h.ord, few := by have := h.few; omega
    all := fun x y hx hy hne hm ⟨u, hu, hux⟩ => by
      by_cases e : u = t
      · rw [e] at hux
        rcases hs with ⟨u', hu', hm'⟩ | hs
        · exact h.all x y hx hy hne hm ⟨u', hu', hm'.trans hux⟩
        · have h1 := hs x hx hux
          have h2 := hs y hy (hux.trans hm)
          exact absurd (h1.trans h2.symm) hne
      · exact h.all x y hx hy hne hm ⟨u, by omega, hux⟩ }

theorem Cls.push {A : Nat → Nat → Prop} {n t K : Nat} {ln : Nat → Nat} {C : Nat → Nat → Nat} (h : Cls A n t K ln C) {len : Nat} {f : Nat → Nat} (hl : Lst A t n len f) (h1 : 1 < len) (h0 : f 0 = t) : Cls A n (t + 1) (K + 1) (upd ln K len) (upd C K f) :=
  { big := fun c hc => by
      by_cases e : c = K
      · rw [e, upd_same]; exact h1
      · rw [upd_ne e]; exact h.big c (by omega)
    lst := fun c hc => by
      by_cases e : c = K
      · rw [e, upd_same, upd_same, h0]; exact hl
      · rw [upd_ne e, upd_ne e]; exact h.lst c (by omega)
    low := fun c hc => by
      by_cases e : c = K
      · rw [e, upd_same, h0]; omega
      · rw [upd_ne e]; have := h.low c (by omega); omega
    ord := fun c d hcd hd => by
      by_cases e : d = K
      · rw [e, upd_same, upd_ne (by omega), h0]; exact h.low c (by omega)
      · rw [upd_ne e, upd_ne (by omega)]; exact h.ord c d hcd (by omega)
    all := fun x y hx hy hne hm ⟨u, hu, hux⟩ => by
      by_cases e : u = t
      · rw [e] at hux
        obtain ⟨i, hi, hx2⟩ := hl.all x hx hux
        exact ⟨K, by omega, i, by rw [upd_same]; exact hi, by rw [upd_same]; exact hx2⟩
      · obtain ⟨c, hc, i, hi, hx2⟩ := h.all x y hx hy hne hm ⟨u, by omega, hux⟩
        exact ⟨c, by omega, i, by rw [upd_ne (by omega)]; exact hi, by rw [upd_ne (by omega)]; exact hx2⟩
    few := by have := h.few; omega }

/-- The list of classes in memory, and the marks. -/
structure MSt (w : World) (n : Nat) (wr : World) (dn : Nat → Bool) (ov : Value) (K : Nat) (cb co cc ln : Nat → Nat) (C : Nat → Nat → Nat) : Prop where
  row : wr.rowIs w.heap.size 4 n (fun i => .bool (dn i))
  out : AppV wr 22 ov K (fun c => .slice (some ⟨cb c, co c, none⟩) (ln c) (cc c))
  ob : ∀ b, ov.ownBlock = some b → w.heap.size < b ∧ b < wr.heap.size
  cls : ∀ c, c < K → Seg wr (cb c) (co c) (ln c) (fun i => iv (C c i)) ∧ w.heap.size < cb c ∧ cb c < wr.heap.size
  sep : ∀ c, c < K → ov.ownBlock ≠ some (cb c)
  bel : Below w.heap.size w wr

theorem MSt.keep {w : World} {n : Nat} {wr : World} {dn dn' : Nat → Bool} {ov : Value} {K : Nat} {cb co cc ln : Nat → Nat} {C : Nat → Nat → Nat} (h : MSt w n wr dn ov K cb co cc ln C) {wr' : World} (hs : wr.heap.size ≤ wr'.heap.size)
    (hk : ∀ b, w.heap.size < b → b < wr.heap.size → wr'.heap[b]? = wr.heap[b]?) (hr : wr'.rowIs w.heap.size 4 n (fun i => .bool (dn' i))) (hb : Below w.heap.size w wr') : MSt w n wr' dn' ov K cb co cc ln C :=
  { row := hr
    out := h.out.of_block (fun b e => hk b (h.ob b e).1 (h.ob b e).2)
    ob := fun b e => ⟨(h.ob b e).1, Nat.lt_of_lt_of_le (h.ob b e).2 hs⟩
    cls := fun c hc => ⟨(h.cls c hc).1.of_block (hk _ (h.cls c hc).2.1 (h.cls c hc).2.2), (h.cls c hc).2.1, Nat.lt_of_lt_of_le (h.cls c hc).2.2 hs⟩
    sep := h.sep, bel := hb }

theorem src_slice {w : World} (a : Option Addr) (l c : Nat) : Src Try.prog 1 26 (.slice (some ⟨w.heap.size, 0, none⟩) 1 1) 1 [.slice a l c] (w.alloc (.cells #[.slice a l c] 22)) :=
  Src.ofSlice _ Try.underlying26 ⟨w.heap.size, 0, none⟩ 1 1 _ (by simp) (World.news_of_block (cs := #[.slice a l c]) (t := 22) (fr := (0, 0)) (heap_alloc_new w _)) (by simp [Value.oneCell'])

/-- One more class. -/
theorem mst_push {w : World} {n : Nat} {wr : World} {dn : Nat → Bool} {ov : Value} {K : Nat} {cb co cc ln : Nat → Nat} {C : Nat → Nat → Nat} (h : MSt w n wr dn ov K cb co cc ln C) {b o len cap : Nat} {f : Nat → Nat} (hseg : Seg wr b o len (fun i => iv (f i))) (hb1 : w.heap.size < b) (hb2 : b < wr.heap.size) (hb3 : ov.ownBlock ≠ some b)
    {w3 : World} {b' o' cap' : Nat}
    (hA : App w3 22 b' o' (K + 1) cap' (fun k => if k < K then (fun c => Value.slice (some ⟨cb c, co c, none⟩) (ln c) (cc c)) k else [Value.slice (some ⟨b, o, none⟩) len cap].getD (k - K) undef))
    (hown : ov.ownBlock = some b' ∨ b' = (wr.alloc (.cells #[.slice (some ⟨b, o, none⟩) len cap] 22)).heap.size)
    (hg : (wr.alloc (.cells #[.slice (some ⟨b, o, none⟩) len cap] 22)).grownBy w3 ov.ownBlock) :
    MSt w n w3 dn (.slice (some ⟨b', o', none⟩) (K + 1) cap') (K + 1) (upd cb K b) (upd co K o) (upd cc K cap) (upd ln K len) (upd C K f) := by
  have hsz : (wr.alloc (.cells #[.slice (some ⟨b, o, none⟩) len cap] 22)).heap.size = wr.heap.size + 1 := by simp
  have hlt := hA.lt
  have hkeep : ∀ x, x < wr.heap.size → ov.ownBlock ≠ some x → w3.heap[x]? = wr.heap[x]? := fun x hx hne => by
    rw [hg.block x (by rw [hsz]; omega) (fun e => hne e.symm)]
    exact ((Below.refl wr.heap.size wr).alloc (Nat.le_refl _) _).block x hx
  have hs3 := hg.size
  have hrl := h.row.lt
  exact
    { row := h.row.of_block (hkeep _ h.row.lt (fun e => by have := (h.ob _ e).1; omega))
      out := .inr ⟨b', o', cap', rfl, hA.congr fun k hk => by
        by_cases e : k = K
        · rw [if_neg (by omega), e, Nat.sub_self, upd_same, upd_same, upd_same, upd_same]; rfl
        · rw [if_pos (by omega), upd_ne e, upd_ne e, upd_ne e, upd_ne e]⟩
      ob := fun x e => by
        have e' : b' = x := by simpa [Value.ownBlock] using e
        subst e'
        refine ⟨?_, hlt⟩
        rcases hown with e2 | e2
        · exact (h.ob _ e2).1
        · rw [hsz] at e2; omega
      cls := fun c hc => by
        by_cases e : c = K
        · rw [e, upd_same, upd_same, upd_same, upd_same]
          exact ⟨hseg.of_block (hkeep b hb2 hb3), hb1, by omega⟩
        · rw [upd_ne e, upd_ne e, upd_ne e, upd_ne e]
          have := h.cls c (by omega)
          exact ⟨this.1.of_block (hkeep _ this.2.2 (h.sep c (by omega))), this.2.1, by omega⟩
      sep := fun c hc => by
        show some b' ≠ some (upd cb K b c)
        by_cases e : c = K
        · rw [e, upd_same]
          intro e2
          have e3 : b' = b := by simpa using e2
          rcases hown with e4 | e4
          · rw [e3] at e4; exact hb3 e4
          · rw [hsz] at e4; omega
        · rw [upd_ne e]
          intro e2
          have e3 : b' = cb c := by simpa using e2
          rcases hown with e4 | e4
          · rw [e3] at e4; exact h.sep c (by omega) e4
          · rw [hsz] at e4; have := (h.cls c (by omega)).2.2; omega
      bel := ((h.bel.alloc (Nat.le_of_lt hrl) _)).grown hg (by rw [hsz]; omega) (fun k e => Nat.le_of_lt (h.ob k e).1) }

/-- In the midst of one class: v's below are seen to. -/
structure Cst (w : World) (n : Nat) (A : Nat → Nat → Prop) (wB : World) (dn : Nat → Bool) (u v : Nat) (wr : World) (dn' : Nat → Bool) (cv : Value) (len : Nat) (f : Nat → Nat) : Prop where
  row : wr.rowIs w.heap.size 4 n (fun i => .bool (dn' i))
  app : AppV wr 3 cv len (fun i => .int .i64 (f i))
  ob : ∀ b, cv.ownBlock = some b → wB.heap.size ≤ b ∧ b < wr.heap.size
  old : ∀ b, w.heap.size < b → b < wB.heap.size → wr.heap[b]? = wB.heap[b]?
  sz : wB.heap.size ≤ wr.heap.size
  bel : Below w.heap.size w wr
  lst : Lst A u v len f
  dns : ∀ x, dn' x = true ↔ dn x = true ∨ (x < v ∧ Mut A u x)

theorem cst_push {w : World} {n : Nat} {A : Nat → Nat → Prop} {wB : World} {dn : Nat → Bool} {u v : Nat} {wr : World} {dn' : Nat → Bool} {cv : Value} {len : Nat} {f : Nat → Nat} (h : Cst w n A wB dn u v wr dn' cv len f) (hm : Mut A u v) (hwB : w.heap.size < wB.heap.size)
    {w3 : World} {b' o' cap' : Nat}
    (hA : App w3 3 b' o' (len + 1) cap' (fun k => if k < len then (fun i => Value.int .i64 (f i)) k else [Value.int .i64 (v : Int)].getD (k - len) undef))
    (hown : cv.ownBlock = some b' ∨ b' = (wr.alloc (.cells #[.int .i64 (v : Int)] 3)).heap.size)
    (hg : (wr.alloc (.cells #[.int .i64 (v : Int)] 3)).grownBy w3 cv.ownBlock) :
    Cst w n A wB dn u (v + 1) (w3.setCell ⟨w.heap.size, v, none⟩ (.bool true)) (mark dn' v) (.slice (some ⟨b', o', none⟩) (len + 1) cap') (len + 1) (fun i => if i < len then f i else v) := by
  have hsz : (wr.alloc (.cells #[.int .i64 (v : Int)] 3)).heap.size = wr.heap.size + 1 := by simp
  have hlt := hA.lt
  have hs3 := hg.size
  have hwr := h.sz
  have hrl := h.row.lt
  have hkeep : ∀ x, x < wr.heap.size → cv.ownBlock ≠ some x → w3.heap[x]? = wr.heap[x]? := fun x hx hne => by
    rw [hg.block x (by rw [hsz]; omega) (fun e => hne e.symm)]
    exact ((Below.refl wr.heap.size wr).alloc (Nat.le_refl _) _).block x hx
  have hb' : wB.heap.size ≤ b' := by
    rcases hown with e | e
    · exact (h.ob _ e).1
    · rw [hsz] at e; omega
  have hset : (w3.setCell ⟨w.heap.size, v, none⟩ (.bool true)).heap.size = w3.heap.size := by simp [World.setCell]
  exact
    { row := ((h.row.of_block (hkeep _ hrl (fun e => by have := (h.ob _ e).1; omega))).set v (.bool true)).congr fun i hi => by
        show (if i = v then Value.bool true else Value.bool (dn' i)) = Value.bool (mark dn' v i)
        unfold mark
        split <;> rfl
      app := .inr ⟨b', o', cap', rfl, (hA.of_block (heap_setCell_other _ _ _ _ (by simp; omega))).congr fun k hk => by
        by_cases e : k < len
        · rw [if_pos e, if_pos e]
        · have : k = len := by omega
          rw [if_neg e, if_neg e, this, Nat.sub_self]; rfl⟩
      ob := fun x e => by
        have e' : b' = x := by simpa [Value.ownBlock] using e
        subst e'
        exact ⟨hb', by rw [hset]; exact hlt⟩
      old := fun x h1 h2 => by
        rw [heap_setCell_other _ _ _ _ (by simp; omega), hkeep x (by omega) (fun e => by have := (h.ob _ e).1; omega)]
        exact h.old x h1 h2
      sz := by rw [hset]; omega
      bel := ((h.bel.alloc (Nat.le_of_lt hrl) _).grown hg (by rw [hsz]; omega) (fun k e => by have := (h.ob k e).1; omega)).setCell (p := ⟨w.heap.size, v, none⟩) (Nat.le_refl _) _
      lst := h.lst.push hm
      dns := fun x => by
        unfold mark
        by_cases e : x = v
        · rw [if_pos e]
          exact ⟨fun _ => .inr ⟨by omega, by rw [e]; exact hm⟩, fun _ => rfl⟩
        · rw [if_neg e, h.dns]
          constructor
          · rintro (h1 | ⟨h1, h2⟩)
            · exact .inl h1
            · exact .inr ⟨by omega, h2⟩
          · rintro (h1 | ⟨h1, h2⟩)
            · exact .inl h1
            · exact .inr ⟨by omega, h2⟩ }

theorem cst_skip {w : World} {n : Nat} {A : Nat → Nat → Prop} {wB : World} {dn : Nat → Bool} {u v : Nat} {wr : World} {dn' : Nat → Bool} {cv : Value} {len : Nat} {f : Nat → Nat} (h : Cst w n A wB dn u v wr dn' cv len f) (hm : ¬ Mut A u v) :
    Cst w n A wB dn u (v + 1) wr dn' cv len f := by
  have hd : ∀ x, dn' x = true ↔ dn x = true ∨ (x < v + 1 ∧ Mut A u x) := fun x => by
    rw [h.dns]
    constructor
    · rintro (h1 | ⟨h1, h2⟩)
      · exact .inl h1
      · exact .inr ⟨by omega, h2⟩
    · rintro (h1 | ⟨h1, h2⟩)
      · exact .inl h1
      · by_cases e : x = v
        · rw [e] at h2; exact absurd h2 hm
        · exact .inr ⟨by omega, h2⟩
  exact { h with lst := h.lst.skip hm, dns := hd }

/-- What mutualClasses hands back. -/
def ClsQ (w : World) (n : Nat) (A : Nat → Nat → Prop) (e : Ending) (w' : World) : Prop :=
  ∃ (ov : Value) (K : Nat) (cb co cc ln : Nat → Nat) (C : Nat → Nat → Nat), e = .returned ov ∧ AppV w' 22 ov K (fun c => .slice (some ⟨cb c, co c, none⟩) (ln c) (cc c)) ∧
    (∀ c, c < K → Seg w' (cb c) (co c) (ln c) (fun i => iv (C c i)) ∧ w.heap.size < cb c ∧ cb c < w'.heap.size) ∧ (∀ b, ov.ownBlock = some b → w.heap.size < b ∧ b < w'.heap.size) ∧ Cls A n n K ln C ∧ Below w.heap.size w w'

/-- The marks when all nodes below t are seen to. -/
def Dn (A : Nat → Nat → Prop) (t : Nat) (dn : Nat → Bool) : Prop := ∀ x, dn x = true ↔ ∃ u, u < t ∧ Mut A u x

theorem dn_start (A : Nat → Nat → Prop) : Dn A 0 (fun _ => false) := fun x => ⟨fun h => by simp at h, fun ⟨u, hu, _⟩ => by omega⟩

theorem dn_skip {A : Nat → Nat → Prop} {t : Nat} {dn : Nat → Bool} (h : Dn A t dn) (ht : dn t = true) : Dn A (t + 1) dn := fun x => by
  obtain ⟨u', hu', hm'⟩ := (h t).1 ht
  rw [h]
  constructor
  · rintro ⟨u, hu, hm⟩; exact ⟨u, by omega, hm⟩
  · rintro ⟨u, hu, hm⟩
    by_cases e : u = t
    · rw [e] at hm; exact ⟨u', hu', hm'.trans hm⟩
    · exact ⟨u, by omega, hm⟩

theorem dn_class {A : Nat → Nat → Prop} {n t : Nat} {dn dn' : Nat → Bool} (h : Dn A t dn) (hA : ∀ x, Mut A t x → x < n) (hd : ∀ x, dn' x = true ↔ dn x = true ∨ (x < n ∧ Mut A t x)) : Dn A (t + 1) dn' := fun x => by
  rw [hd, h]
  constructor
  · rintro (⟨u, hu, hm⟩ | ⟨_, hm⟩)
    · exact ⟨u, by omega, hm⟩
    · exact ⟨t, by omega, hm⟩
  · rintro ⟨u, hu, hm⟩
    by_cases e : u = t
    · rw [e] at hm; exact .inr ⟨hA x hm, hm⟩
    · exact .inl ⟨u, by omega, hm⟩

/-- A class's first member is its least: the node that was not done. -/
theorem lst_first {A : Nat → Nat → Prop} {n t len : Nat} {f : Nat → Nat} {dn : Nat → Bool} (hd : Dn A t dn) (ht : dn t = false) (htn : t < n) (h : Lst A t n len f) : 0 < len ∧ f 0 = t := by
  obtain ⟨i, hi, e⟩ := h.all t htn (Mut.refl t)
  refine ⟨by omega, ?_⟩
  rcases Nat.eq_zero_or_pos i with h0 | h0
  · rw [h0] at e; exact e
  · have h1 := h.inc 0 i h0 hi
    have h2 := (h.mem 0 (by omega)).2
    rw [e] at h1
    have := (hd t).2 ⟨f 0, h1, h2.symm⟩
    rw [ht] at this
    cases this

theorem reach_lt {A : Nat → Nat → Prop} {n u v : Nat} (hA : ∀ u x, u < n → A u x → x < n) (hu : u < n) (h : Reach A u v) : v < n :=
  h (fun x => x < n) hu (fun x y hx e => hA x y hx e)

set_option maxRecDepth 100000 in
set_option maxHeartbeats 4000000 in
theorem classes_any (w : World) (fb gb fb' gb' n m : Nat) (A A' : Nat → Nat → Prop) (F G F' G' : Nat → Nat) (hR : Rows w fb gb n m F G) (hC : CSR n m A F G) (hR' : Rows w fb' gb' n m F' G') (hC' : CSR n m A' F' G')
    (hA : ∀ u x, u < n → A u x → x < n) (hA' : ∀ u x, u < n → A' u x → x < n) (hrev : ∀ u x, Reach A' u x ↔ Reach A x u) (hn : n ≤ 4096) (hm : m ≤ 4096) :
    Calls Try.prog 12 #[.int .i64 n, .slice (some ⟨fb, 0, none⟩) (n + 1) (n + 1), .slice (some ⟨gb, 0, none⟩) m m, .slice (some ⟨fb', 0, none⟩) (n + 1) (n + 1), .slice (some ⟨gb', 0, none⟩) m m] w fun e w' => ClsQ w n A e w' := by
  have mk1 := run_make_bools n (by omega) w
  have h0 : MSt w n (w.alloc (.cells (madeCells #[.bool false] n) 4)) (fun _ => false) (.slice none 0 0) 0 (fun _ => 0) (fun _ => 0) (fun _ => 0) (fun _ => 0) (fun _ _ => 0) :=
    { row := World.rowIs_made w (.bool false) n 4, out := .inl ⟨rfl, rfl⟩, ob := fun b e => by simp [Value.ownBlock] at e, cls := fun c hc => by omega, sep := fun c hc => by omega, bel := (Below.refl _ _).alloc (Nat.le_refl _) _ }
  have H0 := (show Hid (MSt w n (w.alloc (.cells (madeCells #[.bool false] n) 4)) (fun _ => false) (.slice none 0 0) 0 (fun _ => 0) (fun _ => 0) (fun _ => 0) (fun _ => 0) (fun _ _ => 0)) from h0)
  have call1 : ∀ w1, Below w.heap.size w w1 → ∀ s, s < n → Calls Try.prog 25 #[.int .i64 n, .slice (some ⟨fb, 0, none⟩) (n + 1) (n + 1), .slice (some ⟨gb, 0, none⟩) m m, .int .i64 s] w1 fun e w' =>
      e = .returned (.slice (some ⟨w1.heap.size, 0, none⟩) n n) ∧ (∃ sn : Nat → Bool, w'.rowIs w1.heap.size 4 n (fun i => .bool (sn i)) ∧ ∀ i, i < n → (sn i = true ↔ Reach A s i)) ∧ Below w1.heap.size w1 w' := fun w1 hb s hs => reachable_any w1 fb gb n m s A F G (hR.below hb) hC hA hn hm hs
  have call2 : ∀ w1, Below w.heap.size w w1 → ∀ s, s < n → Calls Try.prog 25 #[.int .i64 n, .slice (some ⟨fb', 0, none⟩) (n + 1) (n + 1), .slice (some ⟨gb', 0, none⟩) m m, .int .i64 s] w1 fun e w' =>
      e = .returned (.slice (some ⟨w1.heap.size, 0, none⟩) n n) ∧ (∃ sn : Nat → Bool, w'.rowIs w1.heap.size 4 n (fun i => .bool (sn i)) ∧ ∀ i, i < n → (sn i = true ↔ Reach A i s)) ∧ Below w1.heap.size w1 w' := fun w1 hb s hs => by
    refine (reachable_any w1 fb' gb' n m s A' F' G' (hR'.below hb) hC' hA' hn hm hs).mono ?_
    rintro e w' ⟨h1, ⟨sn, h2, h3⟩, h4⟩
    exact ⟨h1, ⟨sn, h2, fun i hi => (h3 i hi).trans (hrev s i)⟩, h4⟩
  have HC1 := (show Hid (∀ w1, Below w.heap.size w w1 → ∀ s, s < n → Calls Try.prog 25 #[.int .i64 n, .slice (some ⟨fb, 0, none⟩) (n + 1) (n + 1), .slice (some ⟨gb, 0, none⟩) m m, .int .i64 s] w1 fun e w' =>
      e = .returned (.slice (some ⟨w1.heap.size, 0, none⟩) n n) ∧ (∃ sn : Nat → Bool, w'.rowIs w1.heap.size 4 n (fun i => .bool (sn i)) ∧ ∀ i, i < n → (sn i = true ↔ Reach A s i)) ∧ Below w1.heap.size w1 w') from call1)
  have HC2 := (show Hid (∀ w1, Below w.heap.size w w1 → ∀ s, s < n → Calls Try.prog 25 #[.int .i64 n, .slice (some ⟨fb', 0, none⟩) (n + 1) (n + 1), .slice (some ⟨gb', 0, none⟩) m m, .int .i64 s] w1 fun e w' =>
      e = .returned (.slice (some ⟨w1.heap.size, 0, none⟩) n n) ∧ (∃ sn : Nat → Bool, w'.rowIs w1.heap.size 4 n (fun i => .bool (sn i)) ∧ ∀ i, i < n → (sn i = true ↔ Reach A i s)) ∧ Below w1.heap.size w1 w') from call2)
  have HA := (show Hid (∀ u x, u < n → A u x → x < n) from hA)
  clear h0 call1 call2 hR hC hR' hC' hrev hA hA'
  go_enter Try.func12, Try.ntmps12
  go_wp2
  clear mk1
  go_loopg [12, 13] n (fun gk q t wr => ∃ u : Nat, u + gk = n ∧ t = .int .i64 u ∧ ∃ ov dn K cb co cc ln C, ov = q ∧ MSt w n wr dn ov K cb co cc ln C ∧ Dn A u dn ∧ Cls A n u K ln C)
  case atStart => exact ⟨0, by omega, rfl, _, _, 0, _, _, _, _, _, rfl, H0.out, dn_start A, Cls.start A n _ _⟩
  case round =>
    clear H0
    obtain ⟨u, hu, rfl, ov, dn, K, cb, co, cc, ln, C, rfl, hst, hdn, hcl⟩ := hrel
    by_cases hlt : u < n
    · have hlt' : (u : Int) < (n : Int) := by omega
      have c1 := hst.row.cell hlt
      have hK := hcl.few
      have HS : Hid (MSt w n wr dn ov K cb co cc ln C ∧ Dn A u dn ∧ Cls A n u K ln C) := ⟨hst, hdn, hcl⟩
      clear hst hdn hcl
      cases hd : dn u with
      | true =>
        rw [hd] at c1
        have HD : Hid (dn u = true) := hd
        clear hd HC1 HC2
        go_wp2_with fail
        go_roundg (gk - 1)
        case measure => omega
        case rel => exact ⟨u + 1, by omega, by go_num, ov, dn, K, cb, co, cc, ln, C, rfl, HS.out.1, dn_skip HS.out.2.1 HD.out, HS.out.2.2.skip (.inl ((HS.out.2.1 u).1 HD.out))⟩
      | false =>
        rw [hd] at c1
        have HD : Hid (dn u = false) := hd
        clear hd
        go_wp2_with fail
        refine (HC1.out wr HS.out.1.bel u hlt).mono ?_
        rintro e wA ⟨rfl, ⟨fs, hfs, hfs2⟩, hbA⟩
        have HbA : Hid (Below wr.heap.size wr wA) := hbA
        have HFS : Hid (wA.rowIs wr.heap.size 4 n (fun i => .bool (fs i)) ∧ ∀ i, i < n → (fs i = true ↔ Reach A u i)) := ⟨hfs, hfs2⟩
        have HbA2 : Hid (Below w.heap.size w wA) := HS.out.1.bel.trans (hbA.mono HS.out.1.bel.size)
        clear hbA hfs hfs2
        go_wp2_with fail
        refine (HC2.out wA HbA2.out u hlt).mono ?_
        rintro e wB ⟨rfl, ⟨bs, hbs, hbs2⟩, hbB⟩
        have hAB : Below wr.heap.size wr wB := HbA.out.trans (hbB.mono HbA.out.size)
        have hwr : w.heap.size < wr.heap.size := HS.out.1.row.lt
        have hrA : wr.heap.size < wA.heap.size := HFS.out.1.lt
        have hAB2 : wA.heap.size < wB.heap.size := hbs.lt
        have HB : Hid (wB.rowIs wr.heap.size 4 n (fun i => .bool (fs i)) ∧ wB.rowIs wA.heap.size 4 n (fun i => .bool (bs i)) ∧ ∀ i, i < n → ((fs i = true ∧ bs i = true) ↔ Mut A u i)) :=
          ⟨HFS.out.1.of_block (hbB.block _ hrA), hbs, fun i hi => by rw [HFS.out.2 i hi, hbs2 i hi]; exact Iff.rfl⟩
        have HS2 : Hid (MSt w n wB dn ov K cb co cc ln C ∧ Dn A u dn ∧ Cls A n u K ln C) := ⟨HS.out.1.keep hAB.size (fun b _ hb => hAB.block b hb) (HS.out.1.row.of_block (hAB.block _ hwr)) (HS.out.1.bel.trans (hAB.mono HS.out.1.bel.size)), HS.out.2⟩
        have HT : Hid (Cst w n A wB dn u 0 wB dn (.slice none 0 0) 0 (fun _ => 0)) :=
          { row := HS2.out.1.row, app := .inl ⟨rfl, rfl⟩, ob := fun b e => by simp [Value.ownBlock] at e, old := fun _ _ _ => rfl, sz := Nat.le_refl _, bel := HS2.out.1.bel, lst := Lst.start u _, dns := fun x => ⟨.inl, fun h => h.elim id (fun h => by omega)⟩ }
        have hwB : w.heap.size < wB.heap.size := by omega
        clear HS HbA HFS HbA2 hbs hbs2 hbB hAB c1 HC1 HC2
        obtain ⟨Gk, hG⟩ : ∃ g, g = gk := ⟨_, rfl⟩
        subst hG
        go_wp2_with fail
        go_loopg [16, 17] n (fun gk q t wr => ∃ v : Nat, v + gk = n ∧ t = .int .i64 v ∧ ∃ cv dn' len f, cv = q ∧ Cst w n A wB dn u v wr dn' cv len f)
        case atStart => exact ⟨0, by omega, rfl, _, dn, 0, _, rfl, HT.out⟩
        case round =>
          clear HT
          obtain ⟨v, hv, rfl, cv, dn', len, f, rfl, hst⟩ := hrel
          have hle := hst.lst.le
          by_cases hlt2 : v < n
          · have hlt2' : (v : Int) < (n : Int) := by omega
            have c1 := (HB.out.1.of_block (hst.old _ hwr (by omega))).cell hlt2
            have c2 := (HB.out.2.1.of_block (hst.old _ (by omega) hAB2)).cell hlt2
            have hmu := HB.out.2.2 v hlt2
            have HST : Hid (Cst w n A wB dn u v wr dn' cv len f) := hst
            have hrow := hst.row
            have happ := hst.app
            have hobs := hst.ob
            clear hst
            cases h1 : fs v with
            | false =>
              rw [h1] at c1
              have HN : Hid (¬ Mut A u v) := fun h => by have := (hmu.2 h).1; rw [h1] at this; cases this
              clear h1 hmu hrow happ hobs
              go_wp2_with fail
              go_roundg (gk - 1)
              case measure => omega
              case rel => exact ⟨v + 1, by omega, by go_num, cv, dn', len, f, rfl, cst_skip HST.out HN.out⟩
            | true =>
              rw [h1] at c1
              cases h2 : bs v with
              | false =>
                rw [h2] at c2
                have HN : Hid (¬ Mut A u v) := fun h => by have := (hmu.2 h).2; rw [h2] at this; cases this
                clear h1 h2 hmu hrow happ hobs
                go_wp2_with fail
                go_roundg (gk - 1)
                case measure => omega
                case rel => exact ⟨v + 1, by omega, by go_num, cv, dn', len, f, rfl, cst_skip HST.out HN.out⟩
              | true =>
                rw [h2] at c2
                have HN : Hid (Mut A u v) := hmu.1 ⟨h1, h2⟩
                have happ2 : AppV (wr.alloc (.cells #[.int .i64 (v : Int)] 3)) 3 cv len (fun i => .int .i64 (f i)) := happ.of_block (fun b e => ((Below.refl wr.heap.size wr).alloc (Nat.le_refl _) _).block b (hobs b e).2)
                have hne : cv.ownBlock ≠ some w.heap.size := fun e => by have := (hobs _ e).1; omega
                have hr0 := hrow.lt
                have hal : (wr.alloc (.cells #[.int .i64 (v : Int)] 3)).heap.size = wr.heap.size + 1 := by simp
                have hrow2 : Hid (∀ w3, (wr.alloc (.cells #[.int .i64 (v : Int)] 3)).grownBy w3 cv.ownBlock → w3.cell? ⟨w.heap.size, v, none⟩ = some (.bool (dn' v)) ∧ w3.frozen? ⟨w.heap.size, v, none⟩ = false) := fun w3 hg => by
                  have hb : w3.heap[w.heap.size]? = wr.heap[w.heap.size]? := by
                    rw [hg.block w.heap.size (by rw [hal]; omega) (fun e => hne e.symm)]
                    exact ((Below.refl wr.heap.size wr).alloc (Nat.le_refl _) _).block _ hr0
                  exact ⟨(hrow.of_block hb).cell hlt2, (hrow.of_block hb).frozen v⟩
                clear h1 h2 hmu hrow happ hobs hne hr0 hal
                go_wp2_with (at_builtin; refine wpList_append_app rfl (.tmp 54) (.tmp 56) 22 rfl 3 (.int .i64 0) 8 Try.underlying22 Try.info3 rfl cv rfl len (fun k => .int .i64 (f k)) happ2 _ rfl 1 [.int .i64 (v : Int)] (src_one v) (by omega) (by omega) (by omega) ?_; intro b2 o2 cp2 w4 hA1 hown1 hg1 hlt1; have x1 := (hrow2.out w4 hg1).1; have x2 := (hrow2.out w4 hg1).2)
                go_wp2_with fail
                go_roundg (gk - 1)
                case measure => omega
                case rel => exact ⟨v + 1, by omega, by go_num, _, _, len + 1, _, rfl, cst_push HST.out HN.out hwB hA1 hown1 hg1⟩
          · have hlt2' : ¬ (v : Int) < (n : Int) := by omega
            have e : v = n := by omega
            subst e
            have hfirst := lst_first HS2.out.2.1 HD.out hlt hst.lst
            have hdn2 : Hid (Dn A (u + 1) dn') := dn_class HS2.out.2.1 (fun x hx => reach_lt HA.out hlt hx.1) hst.dns
            have hMS : MSt w v wr dn' ov K cb co cc ln C := HS2.out.1.keep hst.sz hst.old hst.row hst.bel
            have HL : Hid (Lst A u v len f) := hst.lst
            rcases hst.app with ⟨_, h0⟩ | ⟨b, o, cap, rfl, happ⟩
            · exact absurd h0 (by omega)
            by_cases h1 : 1 < len
            · have h1' : (1 : Int) < (len : Int) := by omega
              have hbo := hst.ob b rfl
              have hb3 : ov.ownBlock ≠ some b := fun e => by have := (HS2.out.1.ob _ e).2; omega
              have hout : AppV (wr.alloc (.cells #[.slice (some ⟨b, o, none⟩) len cap] 22)) 22 ov K (fun c => .slice (some ⟨cb c, co c, none⟩) (ln c) (cc c)) := hMS.out.of_block (fun x e => ((Below.refl wr.heap.size wr).alloc (Nat.le_refl _) _).block x (hMS.ob x e).2)
              have HM : Hid (MSt w v wr dn' ov K cb co cc ln C ∧ Seg wr b o len (fun i => iv (f i)) ∧ w.heap.size < b ∧ b < wr.heap.size ∧ ov.ownBlock ≠ some b) := ⟨hMS, happ.seg, by omega, hbo.2, hb3⟩
              have HF : Hid (f 0 = u) := hfirst.2
              clear hfirst hMS hbo hb3 hst happ
              go_wp2_with (at_builtin; refine wpList_append_app rfl (.tmp 64) (.tmp 66) 26 rfl 22 (.slice none 0 0) 24 Try.underlying26 Try.info22 rfl ov rfl K (fun c => .slice (some ⟨cb c, co c, none⟩) (ln c) (cc c)) hout _ rfl 1 [.slice (some ⟨b, o, none⟩) len cap] (src_slice _ _ _) (by omega) (by omega) (by omega) ?_; intro b2 o2 cp2 w4 hA1 hown1 hg1 hlt1)
              go_wp2_with fail
              go_roundg (Gk - 1)
              case measure => omega
              case rel =>
                obtain ⟨m1, m2, m3, m4, m5⟩ := HM.out
                exact ⟨u + 1, by omega, by go_num, _, dn', K + 1, _, _, _, _, _, rfl, mst_push m1 m2 m3 m4 m5 hA1 hown1 hg1, hdn2.out, HS2.out.2.2.push HL.out h1 HF.out⟩
            · have h1' : ¬ (1 : Int) < (len : Int) := by omega
              have HM : Hid (MSt w v wr dn' ov K cb co cc ln C) := hMS
              have HO : Hid (∀ y, y < v → Mut A u y → y = u) := fun y hy hm => by
                obtain ⟨i, hi, e⟩ := HL.out.all y hy hm
                have hi0 : i = 0 := by omega
                rw [hi0, hfirst.2] at e
                exact e.symm
              clear hfirst hMS hst happ
              go_wp2_with fail
              go_roundg (Gk - 1)
              case measure => omega
              case rel => exact ⟨u + 1, by omega, by go_num, ov, dn', K, cb, co, cc, ln, C, rfl, HM.out, hdn2.out, HS2.out.2.2.skip (.inr HO.out)⟩
    · have hlt' : ¬ (u : Int) < (n : Int) := by omega
      have e : u = n := by omega
      subst e
      have HS : Hid (MSt w u wr dn ov K cb co cc ln C ∧ Cls A u u K ln C) := ⟨hst, hcl⟩
      clear hst hdn hcl HC1 HC2
      go_wp2_with fail
      go_ret
      exact ⟨ov, K, cb, co, cc, ln, C, rfl, HS.out.1.out, HS.out.1.cls, HS.out.1.ob, HS.out.2, HS.out.1.bel⟩

end Go.Proofs.Qxb6600486a

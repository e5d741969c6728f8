/-
  MEMORY LAWS OF OUR OWN, over no program: a row in the midst of a block that is appended to, cleared, copied into.
-/
import Derived.WalkKit
import Derived.WalkSpells
import Derived.WalkLawsBesides
import Derived.Deep.AppendSrc
import Derived.Deep.OwnRows
import Derived.Deep.Quiet
namespace Go.Proofs.Qxb6600486a
open Go.RowKit

/-- From place o on, n cells of block b hold f 0, f 1, .. -/
def Seg (w : World) (b o n : Nat) (f : Nat → Value) : Prop := ∀ i, i < n → w.cell? ⟨b, o + i, none⟩ = some (f i)

/-- Block b is a row of type t, none of it frozen, with room for cap cells from o on; the first len of them hold f. -/
structure App (w : World) (t : TypeId) (b o len cap : Nat) (f : Nat → Value) : Prop where
  blk : ∃ c : Array Value, w.heap[b]? = some (.cells c t (0, 0)) ∧ o + cap ≤ c.size
  le : len ≤ cap
  seg : Seg w b o len f

/-- A slice value that may be nil. -/
def AppV (w : World) (t : TypeId) (v : Value) (len : Nat) (f : Nat → Value) : Prop :=
  (v = .slice none 0 0 ∧ len = 0) ∨ ∃ b o cap, v = .slice (some ⟨b, o, none⟩) len cap ∧ App w t b o len cap f

theorem Seg.of_block {w w' : World} {b o n : Nat} {f : Nat → Value} (h : Seg w b o n f) (e : w'.heap[b]? = w.heap[b]?) : Seg w' b o n f := fun i hi => by
  rw [World.cell?_of_block (w := w) (w' := w') (a := ⟨b, o + i, none⟩) e]; exact h i hi

theorem Seg.congr {w : World} {b o n : Nat} {f g : Nat → Value} (h : Seg w b o n f) (e : ∀ i, i < n → f i = g i) : Seg w b o n g := fun i hi => by rw [h i hi, e i hi]

theorem App.of_block {w w' : World} {t : TypeId} {b o len cap : Nat} {f : Nat → Value} (h : App w t b o len cap f) (e : w'.heap[b]? = w.heap[b]?) : App w' t b o len cap f :=
  ⟨by obtain ⟨c, hc, hs⟩ := h.blk; exact ⟨c, e.trans hc, hs⟩, h.le, h.seg.of_block e⟩

theorem App.congr {w : World} {t : TypeId} {b o len cap : Nat} {f g : Nat → Value} (h : App w t b o len cap f) (e : ∀ i, i < len → f i = g i) : App w t b o len cap g :=
  ⟨h.blk, h.le, h.seg.congr e⟩

theorem App.lt {w : World} {t : TypeId} {b o len cap : Nat} {f : Nat → Value} (h : App w t b o len cap f) : b < w.heap.size := by
  obtain ⟨c, hc, _⟩ := h.blk
  exact (Array.getElem?_eq_some_iff.1 hc).1

/-- A cut off the front. -/
theorem App.drop {w : World} {t : TypeId} {b o len cap : Nat} {f : Nat → Value} (h : App w t b o len cap f) (m : Nat) (hm : m ≤ len) : App w t b (o + m) (len - m) (cap - m) (fun i => f (m + i)) := by
  obtain ⟨c, hc, hs⟩ := h.blk
  have := h.le
  exact ⟨⟨c, hc, by omega⟩, by omega, fun i hi => by rw [Nat.add_assoc]; exact h.seg (m + i) (by omega)⟩

theorem AppV.of_block {w w' : World} {t : TypeId} {v : Value} {len : Nat} {f : Nat → Value} (h : AppV w t v len f) (e : ∀ b, v.ownBlock = some b → w'.heap[b]? = w.heap[b]?) : AppV w' t v len f := by
  rcases h with h | ⟨b, o, cap, rfl, h⟩
  · exact .inl h
  · exact .inr ⟨b, o, cap, rfl, h.of_block (e b rfl)⟩

theorem setCells_block (b : Nat) {t : TypeId} : ∀ (vs : List Value) (o : Nat) (w : World) (c : Array Value), w.heap[b]? = some (.cells c t (0, 0)) →
    ∃ c' : Array Value, (w.setCells b o vs).heap[b]? = some (.cells c' t (0, 0)) ∧ c'.size = c.size
  | [], _, _, c, h => ⟨c, h, rfl⟩
  | v :: r, o, w, c, h => by
    obtain ⟨c', h1, h2⟩ := setCells_block b r (o + 1) (w.setCell ⟨b, o, none⟩ v) (c.setIfInBounds o v) (heap_setCell_same w b o c t v h)
    exact ⟨c', h1, by simpa using h2⟩

theorem setCells_grownBy (b : Nat) : ∀ (vs : List Value) (o : Nat) (w : World), w.grownBy (w.setCells b o vs) (some b)
  | [], _, _ => ⟨rfl, rfl, rfl, Nat.le_refl _, fun _ _ _ => rfl⟩
  | v :: r, o, w => by
    have h := setCells_grownBy b r (o + 1) (w.setCell ⟨b, o, none⟩ v)
    refine ⟨h.os, h.tape, h.output, by simpa [World.setCells] using h.size, fun k hk hne => ?_⟩
    rw [World.setCells, h.block k (by simpa using hk) hne, heap_setCell_other _ _ _ _ (by simpa using hne)]

theorem grownBy_trans {w w1 w2 : World} {r : Option Nat} (h : w.grownBy w1 r) (k : w1.grownBy w2 r) : w.grownBy w2 r :=
  ⟨k.os.trans h.os, k.tape.trans h.tape, k.output.trans h.output, Nat.le_trans h.size k.size, fun i hi hne => (k.block i (Nat.lt_of_lt_of_le hi h.size) hne).trans (h.block i hi hne)⟩

theorem grownBy_some {w w1 : World} (b : Nat) (h : w.grownBy w1 none) : w.grownBy w1 (some b) :=
  ⟨h.os, h.tape, h.output, h.size, fun i hi _ => h.block i hi (by simp)⟩

theorem below_grownBy {w w1 : World} (h : Below w.heap.size w w1) (r : Option Nat) : w.grownBy w1 r :=
  ⟨h.os, h.tape, h.output, h.size, fun i hi _ => h.block i hi⟩

theorem grownBy_drew (w : World) (r : Option Nat) : w.grownBy w.drew r := ⟨rfl, rfl, rfl, Nat.le_refl _, fun _ _ _ => rfl⟩

theorem firstCells_seg {P : Program} {w : World} {b o n c : Nat} {f : Nat → Value} (h : Seg w b o n f) :
    (Builtin.firstCells 1 n (.slice (some ⟨b, o, none⟩) n c)).run P w = .ok ((List.range n).map f).toArray w := by
  refine run_firstCells_some w 1 n ⟨b, o, none⟩ n c _ (by simp) (fun j v hv => ?_)
  have hj : j < n := by
    rcases Nat.lt_or_ge j n with h | h
    · exact h
    · rw [List.getElem?_eq_none (by simpa using h)] at hv; cases hv
  rw [show (⟨b, o, none⟩ : Addr).add j = ⟨b, o + j, none⟩ from by unfold Addr.add; split <;> simp_all, h j hj]
  simpa [hj] using hv

/-- THE LAW OF append: elements of one cell, the first slice nil or in the midst of a block of its own. -/
theorem run_append_app {P : Program} (w : World) (t ty e : TypeId) (i : TypeInfo) (z : Value) (bytes : Nat) (ht : P.underlying t = some (.slice e)) (hi : P.info? e = some i) (hz : i.zero = some z)
    (hsize : i.size = 1) (hby : i.bytes = bytes) (hzs : z.cells.size = 1) (v : Value) (len : Nat) (f : Nat → Value) (hv : AppV w e v len f)
    (x : Value) (n : Nat) (news : List Value) (hs : Src P 1 t x n news w) (hn : 0 < n) (h63 : len + n ≤ 9223372036854775807) (hbytes : (len + n) * bytes ≤ 140737488355328) :
    ∃ b o cap w', (Builtin.append_ #[t, t] ty #[v, x]).run P w = .ok (.slice (some ⟨b, o, none⟩) (len + n) cap) w' ∧
      App w' e b o (len + n) cap (fun j => if j < len then f j else news.getD (j - len) undef) ∧ (v.ownBlock = some b ∨ b = w.heap.size) ∧ w.grownBy w' v.ownBlock ∧ b < w'.heap.size := by
  have hnl : news.length = n := by simpa using hs.newsLen
  subst hby
  have hs' : Src P i.size t x n news w := by rw [hsize]; exact hs
  -- the arm that grows
  have grow : ∀ (base : Option Addr) (cap : Nat), v = .slice base len cap → cap < len + n →
      (Builtin.firstCells i.size len (.slice base len cap)).run P w.drew = .ok ((List.range len).map f).toArray w.drew →
      ∃ b o cap w', (Builtin.append_ #[t, t] ty #[v, x]).run P w = .ok (.slice (some ⟨b, o, none⟩) (len + n) cap) w' ∧
      App w' e b o (len + n) cap (fun j => if j < len then f j else news.getD (j - len) undef) ∧ (v.ownBlock = some b ∨ b = w.heap.size) ∧ w.grownBy w' v.ownBlock ∧ b < w'.heap.size := by
    intro base cap hvb hc hold
    have hr := run_append_grow_src (P := P) w t t ty e i z ht hi hz base len cap ((List.range len).map f) hold x n news hs' hc (by omega) (growslice_fits hc hbytes)
    have hge := grownCap_ge w (len + n) cap e
    refine ⟨w.heap.size, 0, _, _, by rw [hvb]; exact hr, ⟨⟨_, heap_alloc_new w.drew _, ?_⟩, hge, ?_⟩, .inr rfl, ⟨rfl, rfl, rfl, by simp, fun k hk _ => Below.heap_alloc w.drew _ k hk⟩, by simp⟩
    · simp only [Array.size_append, List.size_toArray, size_zeroCells, hzs, List.length_append, List.length_map, List.length_range, hnl]
      omega
    · intro j hj
      rw [Nat.zero_add, cell_of_row (w.drew.alloc _) w.heap.size j _ e (0, 0) (heap_alloc_new w.drew _)]
      rw [Array.getElem?_append_left (by simp [hnl]; omega)]
      simp only [List.getElem?_toArray]
      by_cases hl : j < len
      · rw [List.getElem?_append_left (by simpa using hl)]
        simp [hl]
      · rw [List.getElem?_append_right (by simpa using hl)]
        have : j - len < news.length := by omega
        simp [hl, this]
  rcases hv with ⟨rfl, rfl⟩ | ⟨b, o, cap, rfl, hA⟩
  · exact grow none 0 rfl (by omega) (by simpa using run_firstCells_none (P := P) w.drew i.size 0 0 0)
  · obtain ⟨c, hc, hcs⟩ := hA.blk
    by_cases hroom : len + n ≤ cap
    · have hcell : ∀ j, j < news.length → (w.cell? ⟨b, o + len * i.size + j, none⟩).isSome = true := fun j hj => by
        rw [cell_of_row w b _ c e (0, 0) hc, hsize]
        have : o + len * 1 + j < c.size := by omega
        simp only [Array.getElem?_eq_getElem this, Option.isSome_some]
      have hr := run_append_room_src (P := P) w t t ty e i ht hi b o len cap x n news hs' hroom hcell (fun j _ => frozen_of_row w b _ c e hc)
      rw [hsize] at hr
      simp only [Nat.mul_one] at hr
      obtain ⟨c', hc', hcs'⟩ := setCells_block b news (o + len) w c hc
      have hg := setCells_grownBy b news (o + len) w
      refine ⟨b, o, cap, _, hr, ⟨⟨c', hc', by omega⟩, hroom, fun j hj => ?_⟩, .inl rfl, hg, Nat.lt_of_lt_of_le (Array.getElem?_eq_some_iff.1 hc).1 hg.size⟩
      by_cases hl : j < len
      · rw [World.cell?_setCells_out b news (o + len) w _ (fun _ _ => Or.inl (by simp; omega)), hA.seg j hl]
        simp [hl]
      · have hj' : j - len < news.length := by omega
        have := World.cell?_setCells_in b news (o + len) w (fun k hk => by have := hcell k hk; rwa [hsize, Nat.mul_one] at this) (j - len) hj'
        rw [show o + len + (j - len) = o + j from by omega] at this
        rw [this]
        simp [hl, hj']
    · exact grow (some ⟨b, o, none⟩) cap rfl (by omega) (by rw [hsize]; exact firstCells_seg (c := cap) (w := w.drew) (f := f) hA.seg)

theorem wp_append_app {P : Program} {w : World} {o : Oper} {a : Act} {K : Act → World → Prop} {Q : Exit → Act → World → Prop} (s y : Operand) (t : TypeId)
    (ho : o.op = .call { callee := .builtin .append, args := #[s, y], argTypes := #[t, t] })
    (e : TypeId) (z : Value) (bytes : Nat) (ht : P.underlying t = some (.slice e)) (hinfo : (P.info? e).map (fun i => (i.zero, i.size, i.bytes)) = some (some z, 1, bytes)) (hzs : z.cells.size = 1)
    (v : Value) (hsv : a.eval s = v) (len : Nat) (f : Nat → Value) (hv : AppV w e v len f)
    (x : Value) (hyx : a.eval y = x) (n : Nat) (news : List Value) (hs : Src P 1 t x n news w) (hn : 0 < n) (h63 : len + n ≤ 9223372036854775807) (hbytes : (len + n) * bytes ≤ 140737488355328)
    (h : ∀ b o' cap w', App w' e b o' (len + n) cap (fun j => if j < len then f j else news.getD (j - len) undef) → (v.ownBlock = some b ∨ b = w.heap.size) → w.grownBy w' v.ownBlock → b < w'.heap.size →
      K (a.put o.dst (.slice (some ⟨b, o', none⟩) (len + n) cap)) w') : o.wp P a w K Q := by
  obtain ⟨i, hi, hz, hsz, hby⟩ := info_parts hinfo
  obtain ⟨b, o', cap, w', hr, h2, h3, h4, h5⟩ := run_append_app (P := P) w t o.type e i z bytes ht hi hz hsz hby hzs v len f hv x n news hs hn h63 hbytes
  unfold Oper.wp execOp
  simp only [ho, resolve, invoke, builtin, Sem.run_bind, Sem.run_pure, Result.andThen_ok, List.map_toArray, List.map_cons, List.map_nil, hsv, hyx, hr]
  exact h b o' cap w' h2 h3 h4 h5

theorem wpList_append_app {P : Program} {w : World} {ops : Array Oper} {rest : List Oper} {o : Oper} {a : Act} {Q : Exit → Act → World → Prop} (hgd : o.guard = none) (s y : Operand) (t : TypeId)
    (ho : o.op = .call { callee := .builtin .append, args := #[s, y], argTypes := #[t, t] })
    (e : TypeId) (z : Value) (bytes : Nat) (ht : P.underlying t = some (.slice e)) (hinfo : (P.info? e).map (fun i => (i.zero, i.size, i.bytes)) = some (some z, 1, bytes)) (hzs : z.cells.size = 1)
    (v : Value) (hsv : a.eval s = v) (len : Nat) (f : Nat → Value) (hv : AppV w e v len f)
    (x : Value) (hyx : a.eval y = x) (n : Nat) (news : List Value) (hs : Src P 1 t x n news w) (hn : 0 < n) (h63 : len + n ≤ 9223372036854775807) (hbytes : (len + n) * bytes ≤ 140737488355328)
    (h : ∀ b o' cap w', App w' e b o' (len + n) cap (fun j => if j < len then f j else news.getD (j - len) undef) → (v.ownBlock = some b ∨ b = w.heap.size) → w.grownBy w' v.ownBlock → b < w'.heap.size →
      wpList P ops Q rest (a.put o.dst (.slice (some ⟨b, o', none⟩) (len + n) cap)) w') : wpList P ops Q (o :: rest) a w :=
  wpList_plain hgd fun _ hK => wp_append_app s y t ho e z bytes ht hinfo hzs v hsv len f hv x hyx n news hs hn h63 hbytes fun b o' cap w' h2 h3 h4 h5 => hK _ _ (h b o' cap w' h2 h3 h4 h5)

theorem step_append_app {P : Program} {w : World} {ops : Array Oper} {o : Oper} {a : Act} {K : Act → World → Prop} {Q : Exit → Act → World → Prop} {E : Prop} (hgd : o.guard = none) (s y : Operand) (t : TypeId)
    (ho : o.op = .call { callee := .builtin .append, args := #[s, y], argTypes := #[t, t] })
    (e : TypeId) (z : Value) (bytes : Nat) (ht : P.underlying t = some (.slice e)) (hinfo : (P.info? e).map (fun i => (i.zero, i.size, i.bytes)) = some (some z, 1, bytes)) (hzs : z.cells.size = 1)
    (v : Value) (hsv : a.eval s = v) (len : Nat) (f : Nat → Value) (hv : AppV w e v len f)
    (x : Value) (hyx : a.eval y = x) (n : Nat) (news : List Value) (hs : Src P 1 t x n news w) (hn : 0 < n) (h63 : len + n ≤ 9223372036854775807) (hbytes : (len + n) * bytes ≤ 140737488355328)
    (h : ∀ b o' cap w', App w' e b o' (len + n) cap (fun j => if j < len then f j else news.getD (j - len) undef) → (v.ownBlock = some b ∨ b = w.heap.size) → w.grownBy w' v.ownBlock → b < w'.heap.size →
      K (a.put o.dst (.slice (some ⟨b, o', none⟩) (len + n) cap)) w') :
    if Region.wanted o (yielded ops a.tmps) = true then Oper.wp P o a w K Q else E := by
  have hw : Region.wanted o (yielded ops a.tmps) = true := by simp [Region.wanted, hgd]
  rw [if_pos hw]
  exact wp_append_app s y t ho e z bytes ht hinfo hzs v hsv len f hv x hyx n news hs hn h63 hbytes h

/-! ### Worlds that came later: nothing old has turned -/

structure Later (w : World) where
  val : World
  below : Below w.heap.size w val

theorem wp_region_later_lit {P : Program} {id : Nat} {Q : Exit → Act → World → Prop} {a : Act} {w : World} {l : List Oper} (hm : P.follows .mixedOrders = true) (hB : Region.lexB .any l.toArray = true)
    (h : wpQuiet P l.toArray (fun w' => ∃ x : Later w, w' = x.val) (fun a' => ∀ x : Later w, Q .normal a' x.val) l a) : (Code.region id l.toArray true).wp P Q a w := by
  refine wp_region_quiet (C := fun w' => ∃ x : Later w, w' = x.val) hm hB ⟨⟨w.drew, (Below.refl _ _).drew⟩, rfl⟩ ?_
  have e : (fun a' => ∀ w', (∃ x : Later w, w' = x.val) → Q .normal a' w') = (fun a' => ∀ x : Later w, Q .normal a' x.val) := by
    funext a'
    exact propext ⟨fun h x => h _ ⟨x, rfl⟩, fun h w' ⟨x, hx⟩ => hx ▸ h x⟩
  rw [e]
  simpa using h

theorem later_of {P : Program} {f : FuncId} {args : Array Value} {w : World} {x : Later w} {v : Value}
    (h : Calls P f args x.val fun e w' => e = .returned v ∧ Below x.val.heap.size x.val w') : Calls P f args x.val fun e w'' => e = .returned v ∧ ∃ y : Later w, w'' = y.val :=
  h.mono fun _ w' ⟨he, hb⟩ => ⟨he, ⟨w', x.below.trans (hb.mono x.below.size)⟩, rfl⟩

theorem Later.cell {w : World} (x : Later w) {b : Nat} (hb : b < w.heap.size) (o : Nat) : x.val.cell? ⟨b, o, none⟩ = w.cell? ⟨b, o, none⟩ := x.below.cell (p := ⟨b, o, none⟩) hb

/-! ### One row is written -/

theorem rowIs_seg {w : World} {b : Nat} {t : TypeId} {n : Nat} {f : Nat → Value} (h : w.rowIs b t n f) : Seg w b 0 n f := fun i hi => by rw [Nat.zero_add]; exact h.cell hi

theorem rowIs_setCells_all {w : World} {b : Nat} {t : TypeId} {n : Nat} {f : Nat → Value} (h : w.rowIs b t n f) (vs : List Value) (hv : vs.length = n) :
    (w.setCells b 0 vs).rowIs b t n (fun i => vs.getD i undef) := by
  obtain ⟨c, hc, hn, hf⟩ := h
  obtain ⟨c', hc', hn'⟩ := setCells_block b vs 0 w c hc
  refine ⟨c', hc', by omega, fun i hi => ?_⟩
  have hin := World.cell?_setCells_in b vs 0 w (fun j hj => by
    rw [Nat.zero_add, cell_of_row w b j c t (0, 0) hc, hf j (by omega)]; rfl) i (by omega)
  rw [Nat.zero_add, cell_of_row _ b i c' t (0, 0) hc'] at hin
  rw [hin]
  simp [List.getD, hv, hi]

theorem wpList_copy_row {P : Program} {w : World} {ops : Array Oper} {rest : List Oper} {o : Oper} {a : Act} {Q : Exit → Act → World → Prop} (hgd : o.guard = none) (d s : Operand) (dT sT : TypeId)
    (ho : o.op = .call { callee := .builtin .copy, args := #[d, s], argTypes := #[dT, sT] }) (elem : TypeId) (hu : P.underlying dT = some (.slice elem)) (hsz : (P.info? elem).map (·.size) = some 1)
    (g n dCap fb fo sCap : Nat) (hd : a.eval d = .slice (some ⟨g, 0, none⟩) n dCap) (hs : a.eval s = .slice (some ⟨fb, fo, none⟩) n sCap)
    (t : TypeId) (f0 f : Nat → Value) (hg : w.rowIs g t n f0) (hf : Seg w fb fo n f) (h1 : ∀ i, i < n → (f i).oneCell' = true)
    (h : ∀ w', w'.rowIs g t n f → w.grownBy w' (some g) → wpList P ops Q rest (a.put o.dst (goInt n)) w') : wpList P ops Q (o :: rest) a w := by
  refine wpList_plain hgd fun K hK => ?_
  obtain ⟨c, hc, hn, hcc⟩ := hg
  have hlen : ((List.range n).map f).length = n := by simp
  have hl := run_loadCells_list (P := P) w ⟨fb, fo, none⟩ ((List.range n).map f) (fun j v hv => by
    have hj : j < n := by
      rcases Nat.lt_or_ge j n with h | h
      · exact h
      · rw [List.getElem?_eq_none (by simpa using h)] at hv; cases hv
    rw [show (⟨fb, fo, none⟩ : Addr).add j = ⟨fb, fo + j, none⟩ from by unfold Addr.add; split <;> simp_all, hf j hj]
    simpa [hj] using hv)
  have hst := run_storeCells_cells (P := P) g 0 ((List.range n).map f) 0 w
    (fun j hj => by rw [show 0 + 0 + j = j from by omega, cell_of_row w g j c t (0, 0) hc, hcc j (by simpa using hj)]; rfl)
    (fun j _ => frozen_of_row w g _ c t hc) (fun v hv => by obtain ⟨i, hi, rfl⟩ := List.mem_map.1 hv; exact h1 i (by simpa using hi))
  have hrun : (Builtin.copy_ #[dT, sT] o.type #[.slice (some ⟨g, 0, none⟩) n dCap, .slice (some ⟨fb, fo, none⟩) n sCap]).run P w = .ok (goInt n) (w.setCells g 0 ((List.range n).map f)) := by
    cases hq : P.info? elem with
    | none => simp [hq] at hsz
    | some i =>
      have hi : i.size = 1 := by simpa [hq] using hsz
      rw [hlen] at hl
      simp only [Nat.add_zero] at hst
      simp [Builtin.copy_, run_underlying hu, Builtin.lenOf, Builtin.firstCells, sizeOf, typeInfo, hq, hi, hl, hst]
  unfold Oper.wp
  simp [execOp, ho, resolve, invoke, builtin, hd, hs, hrun, Result.andThen]
  refine hK _ _ (h _ ?_ (setCells_grownBy g _ 0 w))
  refine (rowIs_setCells_all ⟨c, hc, hn, hcc⟩ ((List.range n).map f) hlen).congr (fun i hi => ?_)
  simp [List.getD, hi]

theorem wpList_clear_row {P : Program} {w : World} {ops : Array Oper} {rest : List Oper} {o : Oper} {a : Act} {Q : Exit → Act → World → Prop} (hgd : o.guard = none) (d : Operand) (dT : TypeId)
    (ho : o.op = .call { callee := .builtin .clear, args := #[d], argTypes := #[dT] }) (elem : TypeId) (z : Value) (hu : P.underlying dT = some (.slice elem)) (hz : (zeroValue elem).run P w = .ok z w) (hzc : z.cells = #[z]) (hz1 : z.oneCell' = true)
    (g n dCap : Nat) (hd : a.eval d = .slice (some ⟨g, 0, none⟩) n dCap) (hn0 : 0 < n)
    (t : TypeId) (f0 : Nat → Value) (hg : w.rowIs g t n f0)
    (h : ∀ w', w'.rowIs g t n (fun _ => z) → w.grownBy w' (some g) → wpList P ops Q rest (a.put o.dst (.tuple #[])) w') : wpList P ops Q (o :: rest) a w := by
  refine wpList_plain hgd fun K hK => ?_
  obtain ⟨c, hc, hn, hcc⟩ := hg
  have hzl : (Builtin.zeroCells z.cells n).toList = List.replicate n z := by
    rw [hzc]
    apply List.ext_getElem
    · simp [Builtin.zeroCells]
    · intro i h1 h2
      simp [Builtin.zeroCells, Nat.mod_one]
  have hst := run_storeCells_cells (P := P) g 0 (List.replicate n z) 0 w
    (fun j hj => by rw [show 0 + 0 + j = j from by omega, cell_of_row w g j c t (0, 0) hc, hcc j (by simpa using hj)]; rfl)
    (fun j _ => frozen_of_row w g _ c t hc) (fun v hv => by rw [List.eq_of_mem_replicate hv]; exact hz1)
  have hrun : (Builtin.clear_ #[dT] o.type #[.slice (some ⟨g, 0, none⟩) n dCap]).run P w = .ok (.tuple #[]) (w.setCells g 0 (List.replicate n z)) := by
    simp only [Nat.add_zero] at hst
    obtain ⟨m, rfl⟩ : ∃ m, n = m + 1 := ⟨n - 1, by omega⟩
    simp [Builtin.clear_, run_underlying hu, hz, hzl, hst]
  unfold Oper.wp
  simp [execOp, ho, resolve, invoke, builtin, hd, hrun, Result.andThen]
  refine hK _ _ (h _ ?_ (setCells_grownBy g _ 0 w))
  refine (rowIs_setCells_all ⟨c, hc, hn, hcc⟩ (List.replicate n z) (by simp)).congr (fun i hi => ?_)
  simp [List.getD, hi]

end Go.Proofs.Qxb6600486a

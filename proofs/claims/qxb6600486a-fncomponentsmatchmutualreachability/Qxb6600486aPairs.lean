/-
  ROWS OF PAIRS: append at elements of two cells.
-/
import Derived.Test.Qxb6600486aBase
set_option linter.unusedVariables false
set_option linter.unusedSimpArgs false
namespace Go.Proofs.Qxb6600486a
open Go.RowKit

structure AppP (w : World) (t : TypeId) (b o len cap : Nat) (f : Nat → Value) : Prop where
  blk : ∃ c : Array Value, w.heap[b]? = some (.cells c t (0, 0)) ∧ o + cap * 2 ≤ c.size
  le : len ≤ cap
  seg : Seg w b o (len * 2) f

def AppPV (w : World) (t : TypeId) (v : Value) (len : Nat) (f : Nat → Value) : Prop :=
  (v = .slice none 0 0 ∧ len = 0) ∨ ∃ b o cap, v = .slice (some ⟨b, o, none⟩) len cap ∧ AppP w t b o len cap f

theorem AppP.of_block {w w' : World} {t : TypeId} {b o len cap : Nat} {f : Nat → Value} (h : AppP w t b o len cap f) (e : w'.heap[b]? = w.heap[b]?) : AppP w' t b o len cap f :=
  ⟨by obtain ⟨c, hc, hs⟩ := h.blk; exact ⟨c, e.trans hc, hs⟩, h.le, h.seg.of_block e⟩

theorem AppP.congr {w : World} {t : TypeId} {b o len cap : Nat} {f g : Nat → Value} (h : AppP w t b o len cap f) (e : ∀ i, i < len * 2 → f i = g i) : AppP w t b o len cap g :=
  ⟨h.blk, h.le, h.seg.congr e⟩

theorem AppP.lt {w : World} {t : TypeId} {b o len cap : Nat} {f : Nat → Value} (h : AppP w t b o len cap f) : b < w.heap.size := by
  obtain ⟨c, hc, _⟩ := h.blk
  exact (Array.getElem?_eq_some_iff.1 hc).1

theorem AppPV.of_block {w w' : World} {t : TypeId} {v : Value} {len : Nat} {f : Nat → Value} (h : AppPV w t v len f) (e : ∀ b, v.ownBlock = some b → w'.heap[b]? = w.heap[b]?) : AppPV w' t v len f := by
  rcases h with h | ⟨b, o, cap, rfl, h⟩
  · exact .inl h
  · exact .inr ⟨b, o, cap, rfl, h.of_block (e b rfl)⟩

/-- Cut to a shorter one. -/
theorem AppP.cut {w : World} {t : TypeId} {b o len cap : Nat} {f : Nat → Value} (h : AppP w t b o len cap f) (l : Nat) (hl : l ≤ len) : AppP w t b o l cap f :=
  ⟨h.blk, Nat.le_trans hl h.le, fun i hi => h.seg i (by omega)⟩

theorem App.cut {w : World} {t : TypeId} {b o len cap : Nat} {f : Nat → Value} (h : App w t b o len cap f) (l : Nat) (hl : l ≤ len) : App w t b o l cap f :=
  ⟨h.blk, Nat.le_trans hl h.le, fun i hi => h.seg i (by omega)⟩

theorem firstCells_seg2 {P : Program} {w : World} {b o n c : Nat} {f : Nat → Value} (h : Seg w b o (n * 2) f) :
    (Builtin.firstCells 2 n (.slice (some ⟨b, o, none⟩) n c)).run P w = .ok ((List.range (n * 2)).map f).toArray w := by
  refine run_firstCells_some w 2 n ⟨b, o, none⟩ n c _ (by simp) (fun j v hv => ?_)
  have hj : j < n * 2 := by
    rcases Nat.lt_or_ge j (n * 2) with h | h
    · exact h
    · rw [List.getElem?_eq_none (by simpa using h)] at hv; cases hv
  rw [show (⟨b, o, none⟩ : Addr).add j = ⟨b, o + j, none⟩ from by unfold Addr.add; split <;> simp_all, h j hj]
  simpa [hj] using hv

theorem run_append_appP {P : Program} (w : World) (t ty e : TypeId) (i : TypeInfo) (z : Value) (bytes : Nat) (ht : P.underlying t = some (.slice e)) (hi : P.info? e = some i) (hz : i.zero = some z)
    (hsize : i.size = 2) (hby : i.bytes = bytes) (hzs : z.cells.size = 2) (v : Value) (len : Nat) (f : Nat → Value) (hv : AppPV w e v len f)
    (x : Value) (news : List Value) (hs : Src P 2 t x 1 news w) (h63 : len + 1 ≤ 9223372036854775807) (hbytes : (len + 1) * bytes ≤ 140737488355328) :
    ∃ b o cap w', (Builtin.append_ #[t, t] ty #[v, x]).run P w = .ok (.slice (some ⟨b, o, none⟩) (len + 1) cap) w' ∧
      AppP w' e b o (len + 1) cap (fun j => if j < len * 2 then f j else news.getD (j - len * 2) undef) ∧ (v.ownBlock = some b ∨ b = w.heap.size) ∧ w.grownBy w' v.ownBlock ∧ b < w'.heap.size := by
  have hnl : news.length = 2 := by simpa using hs.newsLen
  subst hby
  have hs' : Src P i.size t x 1 news w := by rw [hsize]; exact hs
  have grow : ∀ (base : Option Addr) (cap : Nat), v = .slice base len cap → cap < len + 1 →
      (Builtin.firstCells i.size len (.slice base len cap)).run P w.drew = .ok ((List.range (len * 2)).map f).toArray w.drew →
      ∃ b o cap w', (Builtin.append_ #[t, t] ty #[v, x]).run P w = .ok (.slice (some ⟨b, o, none⟩) (len + 1) cap) w' ∧
      AppP w' e b o (len + 1) cap (fun j => if j < len * 2 then f j else news.getD (j - len * 2) undef) ∧ (v.ownBlock = some b ∨ b = w.heap.size) ∧ w.grownBy w' v.ownBlock ∧ b < w'.heap.size := by
    intro base cap hvb hc hold
    have hr := run_append_grow_src (P := P) w t t ty e i z ht hi hz base len cap ((List.range (len * 2)).map f) hold x 1 news hs' hc (by omega) (growslice_fits hc hbytes)
    have hge := grownCap_ge w (len + 1) cap e
    refine ⟨w.heap.size, 0, _, _, by rw [hvb]; exact hr, ⟨⟨_, heap_alloc_new w.drew _, ?_⟩, hge, ?_⟩, .inr rfl, ⟨rfl, rfl, rfl, by simp, fun k hk _ => Below.heap_alloc w.drew _ k hk⟩, by simp⟩
    · simp only [Array.size_append, List.size_toArray, size_zeroCells, hzs, List.length_append, List.length_map, List.length_range, hnl]
      omega
    · intro j hj
      rw [Nat.zero_add, cell_of_row (w.drew.alloc _) w.heap.size j _ e (0, 0) (heap_alloc_new w.drew _)]
      rw [Array.getElem?_append_left (by simp [hnl]; omega)]
      simp only [List.getElem?_toArray]
      by_cases hl : j < len * 2
      · rw [List.getElem?_append_left (by simpa using hl)]
        simp [hl]
      · rw [List.getElem?_append_right (by simpa using hl)]
        have : j - len * 2 < news.length := by omega
        simp [hl, this]
  rcases hv with ⟨rfl, rfl⟩ | ⟨b, o, cap, rfl, hA⟩
  · exact grow none 0 rfl (by omega) (by simpa using run_firstCells_none (P := P) w.drew i.size 0 0 0)
  · obtain ⟨c, hc, hcs⟩ := hA.blk
    by_cases hroom : len + 1 ≤ cap
    · have hcell : ∀ j, j < news.length → (w.cell? ⟨b, o + len * i.size + j, none⟩).isSome = true := fun j hj => by
        rw [cell_of_row w b _ c e (0, 0) hc, hsize]
        have : o + len * 2 + j < c.size := by omega
        simp only [Array.getElem?_eq_getElem this, Option.isSome_some]
      have hr := run_append_room_src (P := P) w t t ty e i ht hi b o len cap x 1 news hs' hroom hcell (fun j _ => frozen_of_row w b _ c e hc)
      rw [hsize] at hr
      obtain ⟨c', hc', hcs'⟩ := setCells_block b news (o + len * 2) w c hc
      have hg := setCells_grownBy b news (o + len * 2) w
      refine ⟨b, o, cap, _, hr, ⟨⟨c', hc', by omega⟩, hroom, fun j hj => ?_⟩, .inl rfl, hg, Nat.lt_of_lt_of_le (Array.getElem?_eq_some_iff.1 hc).1 hg.size⟩
      by_cases hl : j < len * 2
      · rw [World.cell?_setCells_out b news (o + len * 2) w _ (fun _ _ => Or.inl (by simp; omega)), hA.seg j hl]
        simp [hl]
      · have hj' : j - len * 2 < news.length := by omega
        have := World.cell?_setCells_in b news (o + len * 2) w (fun k hk => by have := hcell k hk; rwa [hsize] at this) (j - len * 2) hj'
        rw [show o + len * 2 + (j - len * 2) = o + j from by omega] at this
        rw [this]
        simp [hl, hj']
    · exact grow (some ⟨b, o, none⟩) cap rfl (by omega) (by rw [hsize]; exact firstCells_seg2 (c := cap) (w := w.drew) (f := f) hA.seg)

theorem wp_append_appP {P : Program} {w : World} {o : Oper} {a : Act} {K : Act → World → Prop} {Q : Exit → Act → World → Prop} (s y : Operand) (t : TypeId)
    (ho : o.op = .call { callee := .builtin .append, args := #[s, y], argTypes := #[t, t] })
    (e : TypeId) (z : Value) (bytes : Nat) (ht : P.underlying t = some (.slice e)) (hinfo : (P.info? e).map (fun i => (i.zero, i.size, i.bytes)) = some (some z, 2, bytes)) (hzs : z.cells.size = 2)
    (v : Value) (hsv : a.eval s = v) (len : Nat) (f : Nat → Value) (hv : AppPV w e v len f)
    (x : Value) (hyx : a.eval y = x) (news : List Value) (hs : Src P 2 t x 1 news w) (h63 : len + 1 ≤ 9223372036854775807) (hbytes : (len + 1) * bytes ≤ 140737488355328)
    (h : ∀ b o' cap w', AppP w' e b o' (len + 1) cap (fun j => if j < len * 2 then f j else news.getD (j - len * 2) undef) → (v.ownBlock = some b ∨ b = w.heap.size) → w.grownBy w' v.ownBlock → b < w'.heap.size →
      K (a.put o.dst (.slice (some ⟨b, o', none⟩) (len + 1) cap)) w') : o.wp P a w K Q := by
  obtain ⟨i, hi, hz, hsz, hby⟩ := info_parts hinfo
  obtain ⟨b, o', cap, w', hr, h2, h3, h4, h5⟩ := run_append_appP (P := P) w t o.type e i z bytes ht hi hz hsz hby hzs v len f hv x news hs h63 hbytes
  unfold Oper.wp execOp
  simp only [ho, resolve, invoke, builtin, Sem.run_bind, Sem.run_pure, Result.andThen_ok, List.map_toArray, List.map_cons, List.map_nil, hsv, hyx, hr]
  exact h b o' cap w' h2 h3 h4 h5

theorem step_append_appP {P : Program} {w : World} {ops : Array Oper} {o : Oper} {a : Act} {K : Act → World → Prop} {Q : Exit → Act → World → Prop} {E : Prop} (hgd : o.guard = none) (s y : Operand) (t : TypeId)
    (ho : o.op = .call { callee := .builtin .append, args := #[s, y], argTypes := #[t, t] })
    (e : TypeId) (z : Value) (bytes : Nat) (ht : P.underlying t = some (.slice e)) (hinfo : (P.info? e).map (fun i => (i.zero, i.size, i.bytes)) = some (some z, 2, bytes)) (hzs : z.cells.size = 2)
    (v : Value) (hsv : a.eval s = v) (len : Nat) (f : Nat → Value) (hv : AppPV w e v len f)
    (x : Value) (hyx : a.eval y = x) (news : List Value) (hs : Src P 2 t x 1 news w) (h63 : len + 1 ≤ 9223372036854775807) (hbytes : (len + 1) * bytes ≤ 140737488355328)
    (h : ∀ b o' cap w', AppP w' e b o' (len + 1) cap (fun j => if j < len * 2 then f j else news.getD (j - len * 2) undef) → (v.ownBlock = some b ∨ b = w.heap.size) → w.grownBy w' v.ownBlock → b < w'.heap.size →
      K (a.put o.dst (.slice (some ⟨b, o', none⟩) (len + 1) cap)) w') :
    if Region.wanted o (yielded ops a.tmps) = true then Oper.wp P o a w K Q else E := by
  have hw : Region.wanted o (yielded ops a.tmps) = true := by simp [Region.wanted, hgd]
  rw [if_pos hw]
  exact wp_append_appP s y t ho e z bytes ht hinfo hzs v hsv len f hv x hyx news hs h63 hbytes h

theorem Try.info53 : (Try.prog.info? 53).map (fun i => (i.zero, i.size, i.bytes)) = some (some (.agg #[.int .i64 0, .int .i64 0]), 2, 16) := by kernel_rfl

/-- The cells of a row of frames. -/
def fr (cn cx : Nat → Nat) (j : Nat) : Value := if j % 2 = 0 then iv (cn (j / 2)) else iv (cx (j / 2))

theorem fr_even (cn cx : Nat → Nat) (d : Nat) : fr cn cx (d * 2) = iv (cn d) := by
  unfold fr
  rw [if_pos (by omega), show d * 2 / 2 = d from by omega]

theorem fr_odd (cn cx : Nat → Nat) (d : Nat) : fr cn cx (d * 2 + 1) = iv (cx d) := by
  unfold fr
  rw [if_neg (by omega), show (d * 2 + 1) / 2 = d from by omega]

end Go.Proofs.Qxb6600486a

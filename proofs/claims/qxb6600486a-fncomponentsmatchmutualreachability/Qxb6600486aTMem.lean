/-
  THE SEARCH's MEMORY: ten blocks that the call lays first, the stack, the calls, the list of classes.
-/
import Derived.Test.Qxb6600486aPairs
import Derived.Test.Qxb6600486aTarjan2
set_option linter.unusedVariables false
set_option linter.unusedSimpArgs false
namespace Go.Proofs.Qxb6600486a
open Go.RowKit

/-- The values of the lists. -/
structure TN where
  sv : Value
  kv : Value
  ov : Value
  K : Nat
  cb : Nat → Nat
  co : Nat → Nat
  cc : Nat → Nat
  ln : Nat → Nat
  C : Nat → Nat → Nat

/-- The blocks that the lists own. -/
def TN.owns (N : TN) (b : Nat) : Prop := N.sv.ownBlock = some b ∨ N.kv.ownBlock = some b ∨ N.ov.ownBlock = some b ∨ ∃ c, c < N.K ∧ N.cb c = b

def tyT : Nat → TypeId
  | 0 => 45 | 1 => 3 | 2 => 22 | 3 => 3 | 4 => 22 | 5 => 4 | 6 => 30 | 7 => 22 | 8 => 51 | _ => 3

def szT (n : Nat) : Nat → Nat
  | 1 => n | 3 => n | 5 => n | _ => 1

def fnT (h n pb : Nat) (s : TS) (N : TN) : Nat → Nat → Value
  | 0 => fun _ => .pointer (some ⟨pb, 0, none⟩)
  | 1 => fun v => iv (s.idx v)
  | 2 => fun _ => .slice (some ⟨h + 1, 0, none⟩) n n
  | 3 => fun v => iv (s.low v)
  | 4 => fun _ => .slice (some ⟨h + 3, 0, none⟩) n n
  | 5 => fun v => .bool (s.on v)
  | 6 => fun _ => .slice (some ⟨h + 5, 0, none⟩) n n
  | 7 => fun _ => N.sv
  | 8 => fun _ => N.kv
  | _ => fun _ => iv s.rch

/-- The ten blocks. -/
def TR (w : World) (n pb : Nat) (wr : World) (s : TS) (N : TN) : Prop := ∀ k, k < 10 → wr.rowIs (w.heap.size + k) (tyT k) (szT n k) (fnT w.heap.size n pb s N k)

/-- The lists. -/
structure TL (h : Nat) (wr : World) (S : Nat) (st : Nat → Nat) (D : Nat) (cn cx : Nat → Nat) (N : TN) : Prop where
  st : AppV wr 3 N.sv S (fun i => iv (st i))
  ks : AppPV wr 53 N.kv D (fr cn cx)
  out : AppV wr 22 N.ov N.K (fun c => .slice (some ⟨N.cb c, N.co c, none⟩) (N.ln c) (N.cc c))
  cls : ∀ c, c < N.K → Seg wr (N.cb c) (N.co c) (N.ln c) (fun i => iv (N.C c i))
  hi : ∀ b, N.owns b → h + 10 ≤ b ∧ b < wr.heap.size
  d1 : ∀ b, N.sv.ownBlock = some b → N.kv.ownBlock ≠ some b ∧ N.ov.ownBlock ≠ some b ∧ ∀ c, c < N.K → N.cb c ≠ b
  d2 : ∀ b, N.kv.ownBlock = some b → N.ov.ownBlock ≠ some b ∧ ∀ c, c < N.K → N.cb c ≠ b
  d3 : ∀ b, N.ov.ownBlock = some b → ∀ c, c < N.K → N.cb c ≠ b

structure TM (w : World) (n pb : Nat) (wr : World) (s : TS) (N : TN) : Prop where
  rows : TR w n pb wr s N
  lists : TL w.heap.size wr s.S s.st s.D s.cn s.cx N
  bel : Below w.heap.size w wr

variable {w : World} {n pb : Nat} {wr wr' : World} {s s' : TS} {N N' : TN} {h S D : Nat} {st cn cx : Nat → Nat}

theorem TL.keep (H : TL h wr S st D cn cx N) (hs : wr.heap.size ≤ wr'.heap.size) (hk : ∀ b, N.owns b → wr'.heap[b]? = wr.heap[b]?) : TL h wr' S st D cn cx N :=
  { st := H.st.of_block fun b e => hk b (.inl e)
    ks := H.ks.of_block fun b e => hk b (.inr (.inl e))
    out := H.out.of_block fun b e => hk b (.inr (.inr (.inl e)))
    cls := fun c hc => (H.cls c hc).of_block (hk _ (.inr (.inr (.inr ⟨c, hc, rfl⟩))))
    hi := fun b e => ⟨(H.hi b e).1, Nat.lt_of_lt_of_le (H.hi b e).2 hs⟩
    d1 := H.d1, d2 := H.d2, d3 := H.d3 }

theorem TR.keep (H : TR w n pb wr s N) (hk : ∀ k, k < 10 → wr'.heap[w.heap.size + k]? = wr.heap[w.heap.size + k]?) : TR w n pb wr' s N := fun k hk' => (H k hk').of_block (hk k hk')

theorem TR.lt (H : TR w n pb wr s N) : w.heap.size + 10 ≤ wr.heap.size := by
  have := (H 9 (by omega)).lt
  omega

theorem TM.keep (H : TM w n pb wr s N) (hs : wr.heap.size ≤ wr'.heap.size) (hk : ∀ b, w.heap.size ≤ b → (b < w.heap.size + 10 ∨ N.owns b) → wr'.heap[b]? = wr.heap[b]?) (hb : Below w.heap.size w wr') : TM w n pb wr' s N :=
  { rows := H.rows.keep fun k hk' => hk _ (by omega) (.inl (by omega))
    lists := H.lists.keep hs fun b e => hk b (by have := (H.lists.hi b e).1; omega) (.inr e)
    bel := hb }

theorem TM.later (H : TM w n pb wr s N) (hb : Below wr.heap.size wr wr') : TM w n pb wr' s N :=
  H.keep hb.size (fun b _ h2 => hb.block b (by
    rcases h2 with h2 | h2
    · have := H.rows.lt; omega
    · exact (H.lists.hi b h2).2)) (H.bel.trans (hb.mono H.bel.size))

theorem TM.drewN (H : TM w n pb wr s N) (q : Nat) : TM w n pb (wr.drewN q) s N := H.later (below_drewN (Below.refl _ _) q)

/-- One cell of the ten blocks is written; the lists are as told. -/
theorem tm_set (H : TR w n pb wr s N) (HL : TL w.heap.size wr s'.S s'.st s'.D s'.cn s'.cx N') (hb : Below w.heap.size w wr) (k0 v : Nat) (x : Value) (hk0 : k0 < 10)
    (hf : ∀ k, k < 10 → k ≠ k0 → fnT w.heap.size n pb s' N' k = fnT w.heap.size n pb s N k) (hf0 : ∀ i, i < szT n k0 → (if i = v then x else fnT w.heap.size n pb s N k0 i) = fnT w.heap.size n pb s' N' k0 i) :
    TM w n pb (wr.setCell ⟨w.heap.size + k0, v, none⟩ x) s' N' :=
  { rows := fun k hk => by
      by_cases e : k = k0
      · subst e
        exact ((H k hk).set v x).congr hf0
      · rw [hf k hk e]
        exact (H k hk).of_block (heap_setCell_other _ _ _ _ (by simp; omega))
    lists := HL.keep (by simp [World.setCell]) fun b hb' => heap_setCell_other _ _ _ _ (by have := (HL.hi b hb').1; simp; omega)
    bel := hb.setCell (p := ⟨w.heap.size + k0, v, none⟩) (Nat.le_add_right _ _) _ }

theorem fnT_congr (h n pb : Nat) (s s' : TS) (N N' : TN) (k0 : Nat) (hk : ∀ k, k ≠ k0 → (k = 1 → s'.idx = s.idx) ∧ (k = 3 → s'.low = s.low) ∧ (k = 5 → s'.on = s.on) ∧ (k = 7 → N'.sv = N.sv) ∧ (k = 8 → N'.kv = N.kv) ∧ (k = 9 → s'.rch = s.rch)) :
    ∀ k, k < 10 → k ≠ k0 → fnT h n pb s' N' k = fnT h n pb s N k
  | 0, _, _ => rfl
  | 1, _, e => by show (fun v => iv (s'.idx v)) = _; rw [(hk 1 e).1 rfl]; rfl
  | 2, _, _ => rfl
  | 3, _, e => by show (fun v => iv (s'.low v)) = _; rw [(hk 3 e).2.1 rfl]; rfl
  | 4, _, _ => rfl
  | 5, _, e => by show (fun v => Value.bool (s'.on v)) = _; rw [(hk 5 e).2.2.1 rfl]; rfl
  | 6, _, _ => rfl
  | 7, _, e => by show (fun _ => N'.sv) = _; rw [(hk 7 e).2.2.2.1 rfl]; rfl
  | 8, _, e => by show (fun _ => N'.kv) = _; rw [(hk 8 e).2.2.2.2.1 rfl]; rfl
  | 9, _, e => by show (fun _ => iv s'.rch) = _; rw [(hk 9 e).2.2.2.2.2 rfl]; rfl

theorem TM.setR (H : TM w n pb wr s N) (x : Nat) : TM w n pb (wr.setCell ⟨w.heap.size + 9, 0, none⟩ (iv x)) { s with rch := x } N :=
  tm_set (s' := { s with rch := x }) H.rows H.lists H.bel 9 0 _ (by omega) (fnT_congr _ _ _ _ _ _ _ 9 fun k hk => ⟨fun _ => rfl, fun _ => rfl, fun _ => rfl, fun _ => rfl, fun _ => rfl, fun e => absurd e hk⟩)
    (fun i hi => by
      have : i = 0 := by simp [szT] at hi; omega
      rw [if_pos this]; rfl)

theorem TM.setX (H : TM w n pb wr s N) (v x : Nat) : TM w n pb (wr.setCell ⟨w.heap.size + 1, v, none⟩ (iv x)) { s with idx := upd s.idx v x } N :=
  tm_set (s' := { s with idx := upd s.idx v x }) H.rows H.lists H.bel 1 v _ (by omega) (fnT_congr _ _ _ _ _ _ _ 1 fun k hk => ⟨fun e => absurd e hk, fun _ => rfl, fun _ => rfl, fun _ => rfl, fun _ => rfl, fun _ => rfl⟩)
    (fun i hi => by
      show _ = iv (upd s.idx v x i)
      unfold upd
      split <;> rfl)

theorem TM.setL (H : TM w n pb wr s N) (v x : Nat) : TM w n pb (wr.setCell ⟨w.heap.size + 3, v, none⟩ (iv x)) { s with low := upd s.low v x } N :=
  tm_set (s' := { s with low := upd s.low v x }) H.rows H.lists H.bel 3 v _ (by omega) (fnT_congr _ _ _ _ _ _ _ 3 fun k hk => ⟨fun _ => rfl, fun e => absurd e hk, fun _ => rfl, fun _ => rfl, fun _ => rfl, fun _ => rfl⟩)
    (fun i hi => by
      show _ = iv (upd s.low v x i)
      unfold upd
      split <;> rfl)

theorem TM.setO (H : TM w n pb wr s N) (v : Nat) (x : Bool) : TM w n pb (wr.setCell ⟨w.heap.size + 5, v, none⟩ (.bool x)) { s with on := upd s.on v x } N :=
  tm_set (s' := { s with on := upd s.on v x }) H.rows H.lists H.bel 5 v _ (by omega) (fnT_congr _ _ _ _ _ _ _ 5 fun k hk => ⟨fun _ => rfl, fun _ => rfl, fun e => absurd e hk, fun _ => rfl, fun _ => rfl, fun _ => rfl⟩)
    (fun i hi => by
      show _ = Value.bool (upd s.on v x i)
      unfold upd
      split <;> rfl)

theorem TM.setr (H : TM w n pb wr s N) (r : Nat → Nat) : TM w n pb wr { s with r := r } N := ⟨H.rows, H.lists, H.bel⟩

/-- The stack's header: the lists are as told. -/
theorem TM.setS (H : TM w n pb wr s N) {sv' : Value} {S' : Nat} {st' : Nat → Nat} (HL : TL w.heap.size wr S' st' s.D s.cn s.cx { N with sv := sv' }) : TM w n pb (wr.setCell ⟨w.heap.size + 7, 0, none⟩ sv') { s with S := S', st := st' } { N with sv := sv' } :=
  tm_set (s' := { s with S := S', st := st' }) (N' := { N with sv := sv' }) H.rows HL H.bel 7 0 _ (by omega) (fnT_congr _ _ _ _ _ _ _ 7 fun k hk => ⟨fun _ => rfl, fun _ => rfl, fun _ => rfl, fun e => absurd e hk, fun _ => rfl, fun _ => rfl⟩)
    (fun i hi => by
      have : i = 0 := by simp [szT] at hi; omega
      rw [if_pos this]; rfl)

theorem TM.setK (H : TM w n pb wr s N) {kv' : Value} {D' : Nat} {cn' cx' : Nat → Nat} (HL : TL w.heap.size wr s.S s.st D' cn' cx' { N with kv := kv' }) : TM w n pb (wr.setCell ⟨w.heap.size + 8, 0, none⟩ kv') { s with D := D', cn := cn', cx := cx' } { N with kv := kv' } :=
  tm_set (s' := { s with D := D', cn := cn', cx := cx' }) (N' := { N with kv := kv' }) H.rows HL H.bel 8 0 _ (by omega) (fnT_congr _ _ _ _ _ _ _ 8 fun k hk => ⟨fun _ => rfl, fun _ => rfl, fun _ => rfl, fun _ => rfl, fun e => absurd e hk, fun _ => rfl⟩)
    (fun i hi => by
      have : i = 0 := by simp [szT] at hi; omega
      rw [if_pos this]; rfl)

/-! ### The lists -/

/-- The stack is appended to; its header is not yet written: the rows, as they were; the lists, with the new one. -/
theorem tl_pushS (H : TM w n pb wr s N) (hb : Below wr.heap.size wr wr') {v : Nat} {w3 : World} {b' o' cap' : Nat} (hA : App w3 3 b' o' (s.S + 1) cap' (fun k => if k < s.S then (fun i => iv (s.st i)) k else [iv v].getD (k - s.S) undef))
    (hown : N.sv.ownBlock = some b' ∨ b' = wr'.heap.size) (hg : wr'.grownBy w3 N.sv.ownBlock) (sv' : Value) (hsv : sv' = .slice (some ⟨b', o', none⟩) (s.S + 1) cap') :
    TM w n pb (w3.setCell ⟨w.heap.size + 7, 0, none⟩ sv') { s with S := s.S + 1, st := upd s.st s.S v } { N with sv := sv' } := by
  have H' := H.later hb
  have hlt := hA.lt
  have hs3 := hg.size
  have hsb := hb.size
  have h10 := H.rows.lt
  have hob : sv'.ownBlock = some b' := by rw [hsv]; rfl
  have hkeep : ∀ x, x < wr'.heap.size → N.sv.ownBlock ≠ some x → w3.heap[x]? = wr'.heap[x]? := fun x hx hne => hg.block x hx (fun e => hne e.symm)
  have hnot : ∀ x, (N.kv.ownBlock = some x ∨ N.ov.ownBlock = some x ∨ ∃ c, c < N.K ∧ N.cb c = x) → N.sv.ownBlock ≠ some x := fun x hx e => by
    have := H.lists.d1 x e
    rcases hx with hx | hx | ⟨c, hc, hx⟩
    · exact this.1 hx
    · exact this.2.1 hx
    · exact this.2.2 c hc hx
  have hlt' : ∀ x, N.owns x → x < wr'.heap.size := fun x hx => (H'.lists.hi x hx).2
  have hne' : ∀ x, (N.kv.ownBlock = some x ∨ N.ov.ownBlock = some x ∨ ∃ c, c < N.K ∧ N.cb c = x) → b' ≠ x := fun x hx e => by
    rcases hown with h1 | h1
    · rw [e] at h1; exact hnot x hx h1
    · have := hlt' x (.inr hx); omega
  have hb10 : w.heap.size + 10 ≤ b' := by
    rcases hown with h1 | h1
    · exact (H.lists.hi b' (.inl h1)).1
    · omega
  have hrow : TR w n pb w3 s N := H'.rows.keep fun k hk => hkeep _ (by omega) (fun e => by have := (H.lists.hi _ (.inl e)).1; omega)
  have hbel : Below w.heap.size w w3 := H'.bel.grown hg (by omega) (fun k e => by have := (H.lists.hi k (.inl e)).1; omega)
  have hlist : TL w.heap.size w3 (s.S + 1) (upd s.st s.S v) s.D s.cn s.cx { N with sv := sv' } :=
    { st := .inr ⟨b', o', cap', hsv, hA.congr fun k hk => by
        by_cases e : k < s.S
        · rw [if_pos e, upd_ne (by omega)]
        · have : k = s.S := by omega
          rw [if_neg e, this, upd_same, Nat.sub_self]; rfl⟩
      ks := H'.lists.ks.of_block fun b e => hkeep b (hlt' b (.inr (.inl e))) (hnot b (.inl e))
      out := H'.lists.out.of_block fun b e => hkeep b (hlt' b (.inr (.inr (.inl e)))) (hnot b (.inr (.inl e)))
      cls := fun c hc => (H'.lists.cls c hc).of_block (hkeep _ (hlt' _ (.inr (.inr (.inr ⟨c, hc, rfl⟩)))) (hnot _ (.inr (.inr ⟨c, hc, rfl⟩))))
      hi := fun b hb2 => by
        rcases hb2 with h1 | h1
        · have h1' : sv'.ownBlock = some b := h1
          rw [hob] at h1'
          cases h1'
          exact ⟨hb10, hlt⟩
        · have := H'.lists.hi b (.inr h1)
          exact ⟨this.1, by omega⟩
      d1 := fun b e => by
        have e' : sv'.ownBlock = some b := e
        rw [hob] at e'
        cases e'
        exact ⟨fun h1 => hne' b' (.inl h1) rfl, fun h1 => hne' b' (.inr (.inl h1)) rfl, fun c hc h1 => hne' b' (.inr (.inr ⟨c, hc, h1⟩)) rfl⟩
      d2 := H.lists.d2, d3 := H.lists.d3 }
  have := tm_set (s' := { s with S := s.S + 1, st := upd s.st s.S v }) (N' := { N with sv := sv' }) hrow hlist hbel 7 0 sv' (by omega) (fnT_congr _ _ _ _ _ _ _ 7 fun k hk => ⟨fun _ => rfl, fun _ => rfl, fun _ => rfl, fun e => absurd e hk, fun _ => rfl, fun _ => rfl⟩)
    (fun i hi => by
      have : i = 0 := by simp [szT] at hi; omega
      rw [if_pos this]; rfl)
  exact this

/-- The calls are appended to, their header written. -/
theorem tl_pushK (H : TM w n pb wr s N) (hb : Below wr.heap.size wr wr') {v f : Nat} {w3 : World} {b' o' cap' : Nat} (hA : AppP w3 53 b' o' (s.D + 1) cap' (fun k => if k < s.D * 2 then fr s.cn s.cx k else [iv v, iv f].getD (k - s.D * 2) undef))
    (hown : N.kv.ownBlock = some b' ∨ b' = wr'.heap.size) (hg : wr'.grownBy w3 N.kv.ownBlock) (kv' : Value) (hkv : kv' = .slice (some ⟨b', o', none⟩) (s.D + 1) cap') :
    TM w n pb (w3.setCell ⟨w.heap.size + 8, 0, none⟩ kv') { s with D := s.D + 1, cn := upd s.cn s.D v, cx := upd s.cx s.D f } { N with kv := kv' } := by
  have H' := H.later hb
  have hlt := hA.lt
  have hs3 := hg.size
  have hsb := hb.size
  have h10 := H.rows.lt
  have hob : kv'.ownBlock = some b' := by rw [hkv]; rfl
  have hkeep : ∀ x, x < wr'.heap.size → N.kv.ownBlock ≠ some x → w3.heap[x]? = wr'.heap[x]? := fun x hx hne => hg.block x hx (fun e => hne e.symm)
  have hnot : ∀ x, (N.sv.ownBlock = some x ∨ N.ov.ownBlock = some x ∨ ∃ c, c < N.K ∧ N.cb c = x) → N.kv.ownBlock ≠ some x := fun x hx e => by
    rcases hx with hx | hx | ⟨c, hc, hx⟩
    · exact (H.lists.d1 x hx).1 e
    · exact (H.lists.d2 x e).1 hx
    · exact (H.lists.d2 x e).2 c hc hx
  have hown' : ∀ x, (N.sv.ownBlock = some x ∨ N.ov.ownBlock = some x ∨ ∃ c, c < N.K ∧ N.cb c = x) → N.owns x := fun x hx => by
    rcases hx with hx | hx | hx
    · exact .inl hx
    · exact .inr (.inr (.inl hx))
    · exact .inr (.inr (.inr hx))
  have hlt' : ∀ x, N.owns x → x < wr'.heap.size := fun x hx => (H'.lists.hi x hx).2
  have hne' : ∀ x, (N.sv.ownBlock = some x ∨ N.ov.ownBlock = some x ∨ ∃ c, c < N.K ∧ N.cb c = x) → b' ≠ x := fun x hx e => by
    rcases hown with h1 | h1
    · rw [e] at h1; exact hnot x hx h1
    · have := hlt' x (hown' x hx); omega
  have hb10 : w.heap.size + 10 ≤ b' := by
    rcases hown with h1 | h1
    · exact (H.lists.hi b' (.inr (.inl h1))).1
    · omega
  have hrow : TR w n pb w3 s N := H'.rows.keep fun k hk => hkeep _ (by omega) (fun e => by have := (H.lists.hi _ (.inr (.inl e))).1; omega)
  have hbel : Below w.heap.size w w3 := H'.bel.grown hg (by omega) (fun k e => by have := (H.lists.hi k (.inr (.inl e))).1; omega)
  have hlist : TL w.heap.size w3 s.S s.st (s.D + 1) (upd s.cn s.D v) (upd s.cx s.D f) { N with kv := kv' } :=
    { st := H'.lists.st.of_block fun b e => hkeep b (hlt' b (.inl e)) (hnot b (.inl e))
      ks := .inr ⟨b', o', cap', hkv, hA.congr fun k hk => by
        unfold fr
        by_cases e : k < s.D * 2
        · rw [if_pos e, upd_ne (by omega), upd_ne (by omega)]
        · rw [if_neg e, show k / 2 = s.D from by omega, upd_same, upd_same]
          by_cases e2 : k % 2 = 0
          · rw [if_pos e2, show k - s.D * 2 = 0 from by omega]; rfl
          · rw [if_neg e2, show k - s.D * 2 = 1 from by omega]; rfl⟩
      out := H'.lists.out.of_block fun b e => hkeep b (hlt' b (.inr (.inr (.inl e)))) (hnot b (.inr (.inl e)))
      cls := fun c hc => (H'.lists.cls c hc).of_block (hkeep _ (hlt' _ (.inr (.inr (.inr ⟨c, hc, rfl⟩)))) (hnot _ (.inr (.inr ⟨c, hc, rfl⟩))))
      hi := fun b hb2 => by
        by_cases h1 : kv'.ownBlock = some b
        · rw [hob] at h1
          cases h1
          exact ⟨hb10, hlt⟩
        · have hb3 : N.owns b := by
            rcases hb2 with h2 | h2 | h2
            · exact .inl h2
            · exact absurd h2 h1
            · exact .inr (.inr h2)
          have := H'.lists.hi b hb3
          exact ⟨this.1, by omega⟩
      d1 := fun b e => ⟨fun h1 => hne' b (.inl e) (by have h2 : kv'.ownBlock = some b := h1; rw [hob] at h2; cases h2; rfl), (H.lists.d1 b e).2⟩
      d2 := fun b e => by
        have e' : kv'.ownBlock = some b := e
        rw [hob] at e'
        cases e'
        exact ⟨fun h1 => hne' b' (.inr (.inl h1)) rfl, fun c hc h1 => hne' b' (.inr (.inr ⟨c, hc, h1⟩)) rfl⟩
      d3 := H.lists.d3 }
  have := tm_set (s' := { s with D := s.D + 1, cn := upd s.cn s.D v, cx := upd s.cx s.D f }) (N' := { N with kv := kv' }) hrow hlist hbel 8 0 kv' (by omega) (fnT_congr _ _ _ _ _ _ _ 8 fun k hk => ⟨fun _ => rfl, fun _ => rfl, fun _ => rfl, fun _ => rfl, fun e => absurd e hk, fun _ => rfl⟩)
    (fun i hi => by
      have : i = 0 := by simp [szT] at hi; omega
      rw [if_pos this]; rfl)
  exact this

/-- The stack is cut by one. -/
theorem TM.cutS (H : TM w n pb wr s N) {b o cap : Nat} (hsv : N.sv = .slice (some ⟨b, o, none⟩) s.S cap) (l : Nat) (hl : l ≤ s.S) : TM w n pb (wr.setCell ⟨w.heap.size + 7, 0, none⟩ (.slice (some ⟨b, o, none⟩) l cap)) { s with S := l } { N with sv := .slice (some ⟨b, o, none⟩) l cap } := by
  have hob : N.sv.ownBlock = some b := by rw [hsv]; rfl
  refine H.setS (S' := l) (st' := s.st)
    { st := .inr ⟨b, o, cap, rfl, ?_⟩, ks := H.lists.ks, out := H.lists.out, cls := H.lists.cls, hi := fun x hx => H.lists.hi x ?_, d1 := fun x hx => H.lists.d1 x ?_, d2 := H.lists.d2, d3 := H.lists.d3 }
  · rcases H.lists.st with ⟨h1, _⟩ | ⟨b2, o2, cap2, h1, h2⟩
    · rw [hsv] at h1; cases h1
    · rw [hsv] at h1
      cases h1
      exact h2.cut l hl
  · rcases hx with hx | hx
    · left
      have hx' : some b = some x := hx
      rw [hob]; exact hx'
    · exact .inr hx
  · have hx' : some b = some x := hx
    rw [hob]; exact hx'

theorem TM.cutK (H : TM w n pb wr s N) {b o cap : Nat} (hkv : N.kv = .slice (some ⟨b, o, none⟩) s.D cap) (l : Nat) (hl : l ≤ s.D) : TM w n pb (wr.setCell ⟨w.heap.size + 8, 0, none⟩ (.slice (some ⟨b, o, none⟩) l cap)) { s with D := l } { N with kv := .slice (some ⟨b, o, none⟩) l cap } := by
  have hob : N.kv.ownBlock = some b := by rw [hkv]; rfl
  refine H.setK (D' := l) (cn' := s.cn) (cx' := s.cx)
    { st := H.lists.st, ks := .inr ⟨b, o, cap, rfl, ?_⟩, out := H.lists.out, cls := H.lists.cls, hi := fun x hx => H.lists.hi x ?_, d1 := fun x hx => ⟨fun h2 => (H.lists.d1 x hx).1 ?_, (H.lists.d1 x hx).2⟩, d2 := fun x hx => H.lists.d2 x ?_, d3 := H.lists.d3 }
  · rcases H.lists.ks with ⟨h1, _⟩ | ⟨b2, o2, cap2, h1, h2⟩
    · rw [hkv] at h1; cases h1
    · rw [hkv] at h1
      cases h1
      exact h2.cut l hl
  · rcases hx with hx | hx | hx
    · exact .inl hx
    · right; left
      have hx' : some b = some x := hx
      rw [hob]; exact hx'
    · exact .inr (.inr hx)
  · have hx' : some b = some x := h2
    rw [hob]; exact hx'
  · have hx' : some b = some x := hx
    rw [hob]; exact hx'

/-- A frame's next edge is written. -/
theorem TM.setN (H : TM w n pb wr s N) {b o cap : Nat} (hkv : N.kv = .slice (some ⟨b, o, none⟩) s.D cap) (d x : Nat) (hd : d < s.D) : TM w n pb (wr.setCell ⟨b, o + d * 2 + 1, none⟩ (iv x)) { s with cx := upd s.cx d x } N := by
  have hob : N.kv.ownBlock = some b := by rw [hkv]; rfl
  have hb := H.lists.hi b (.inr (.inl hob))
  have hoth : ∀ y, y ≠ b → (wr.setCell ⟨b, o + d * 2 + 1, none⟩ (iv x)).heap[y]? = wr.heap[y]? := fun y hy => heap_setCell_other _ _ _ _ (by simpa using hy)
  have hsz : (wr.setCell ⟨b, o + d * 2 + 1, none⟩ (iv x)).heap.size = wr.heap.size := by simp [World.setCell]
  refine { rows := H.rows.keep fun k hk => hoth _ (by omega), lists := { st := H.lists.st.of_block fun y e => hoth y (fun e2 => ?_), ks := ?_, out := H.lists.out.of_block fun y e => hoth y (fun e2 => ?_), cls := fun c hc => (H.lists.cls c hc).of_block (hoth _ ((H.lists.d2 b hob).2 c hc)), hi := fun y hy => by rw [hsz]; exact H.lists.hi y hy, d1 := H.lists.d1, d2 := H.lists.d2, d3 := H.lists.d3 }, bel := H.bel.setCell (p := ⟨b, o + d * 2 + 1, none⟩) (by show w.heap.size ≤ b; omega) _ }
  · rw [e2] at e; exact (H.lists.d1 b e).1 hob
  · rcases H.lists.ks with ⟨h1, _⟩ | ⟨b2, o2, cap2, h1, h2⟩
    · rw [hkv] at h1; cases h1
    · have h3 := h1
      rw [hkv] at h3
      cases h3
      obtain ⟨c, hc, hcs⟩ := h2.blk
      have hle := h2.le
      refine .inr ⟨b, o, cap, hkv, ⟨c.setIfInBounds (o + d * 2 + 1) (iv x), heap_setCell_same wr b _ c 53 _ hc, by simpa using hcs⟩, h2.le, fun i hi => ?_⟩
      have hseg := h2.seg i hi
      rw [cell_of_row wr b _ c 53 (0, 0) hc] at hseg
      rw [cell_of_row _ b _ _ 53 (0, 0) (heap_setCell_same wr b _ c 53 _ hc), Array.getElem?_setIfInBounds]
      by_cases e : o + d * 2 + 1 = o + i
      · have ei : i = d * 2 + 1 := by omega
        have : o + d * 2 + 1 < c.size := by omega
        rw [if_pos e, if_pos this, ei]
        show some (iv x) = some (fr s.cn (upd s.cx d x) (d * 2 + 1))
        rw [fr_odd, upd_same]
      · rw [if_neg e, hseg]
        show some (fr s.cn s.cx i) = some (fr s.cn (upd s.cx d x) i)
        unfold fr
        by_cases e2 : i % 2 = 0
        · rw [if_pos e2, if_pos e2]
        · rw [if_neg e2, if_neg e2, upd_ne (by omega)]
  · rw [e2] at e; exact (H.lists.d2 b hob).1 e

end Go.Proofs.Qxb6600486a

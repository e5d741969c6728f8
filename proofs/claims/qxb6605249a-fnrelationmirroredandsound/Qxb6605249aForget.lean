/-
  THE WALK OF forget.
-/
import Derived.Test.Qxb6605249aRows1
import Derived.Deep.RegionHeld3
import Derived.Deep.AppendLies
import Derived.BigRegion
set_option linter.unusedVariables false
set_option linter.unusedSimpArgs false
namespace Go.Proofs.Qxb6605249a
open Go.RowKit

def fg (g : GS) (F : Nat → Nat) (x : Nat) : GS := { g with first := F, fgt := x }

def Done (g : GS) (i : Nat) : Prop := g.cnt i + 1 - g.first i ≤ 1 ∨ g.del - g.dn i (g.first i) < g.keep

structure Fgts (g : GS) (F : Nat → Nat) (x : Nat) : Prop where
  f1 : ∀ i, g.first i ≤ F i
  f2 : ∀ i, i < g.n → ∀ q, g.first i ≤ q → q < F i → g.keep ≤ g.del - g.dn i q ∧ g.dn i q ≤ x
  f3 : g.fgt ≤ x

structure SameRep (R R' : Rep) : Prop where
  gb : R'.gb = R.gb
  cb : R'.cb = R.cb
  mb : R'.mb = R.mb
  lb : R'.lb = R.lb
  hb : R'.hb = R.hb
  base : R'.base = R.base

/-- The state in the midst of 'forget': chains below k are done. -/
structure FSt (g : GS) (R : Rep) (w : World) (k : Nat) (wr : World) (F : Nat → Nat) (x : Nat) (R' : Rep) : Prop where
  gc : GC wr R' (fg g F x)
  ok : GOk (fg g F x)
  fs : Fgts g F x
  dones : ∀ i, i < k → Done (fg g F x) i
  rep : SameRep R R'
  bel : Below R.base w wr
  lh : wr.heap[R.lb]? = w.heap[R.lb]? ∧ wr.heap[R.hb]? = w.heap[R.hb]?

def FRel (g : GS) (R : Rep) (w : World) (k : Nat) (wr : World) : Prop := ∃ F x R', FSt g R w k wr F x R'
def FRelI (g : GS) (R : Rep) (w : World) (k m : Nat) (wr : World) : Prop := ∃ F x R', g.cnt k + 1 - F k = m ∧ FSt g R w k wr F x R'

theorem FSt.len {g : GS} {R : Rep} {w : World} {k : Nat} {wr : World} {F : Nat → Nat} {x : Nat} {R' : Rep} (h : FSt g R w k wr F x R') (hk : k < g.n) :
    ∃ ao cap, wr.cell? ⟨R.cb, k * 3 + 2, none⟩ = some (.slice ao (g.cnt k + 1 - F k) cap) := by
  have := h.gc.c2 k hk
  rw [h.rep.cb, av] at this
  split at this
  · rename_i h0
    have h1 := h.ok.f3 k hk h0
    have h0' : g.cnt k = 0 := h0
    have h1' : F k = 1 := h1
    exact ⟨none, 0, by rw [this, h0', h1']⟩
  · exact ⟨_, _, this⟩

theorem step_delete {w : World} {ops : Array Oper} {o : Oper} {a : Act} {Kc : Act → World → Prop} {Q : Exit → Act → World → Prop} {E : Prop} (hgd : o.guard = none) (m y : Operand)
    (ho : o.op = .call { callee := .builtin .delete, args := #[m, y], argTypes := #[56, 50] }) (b s q : Nat) (M : Nat → Nat → Option Value) (hm : a.eval m = .map (some b)) (hy : a.eval y = .agg #[.int .i64 s, .int .u64 q])
    (hM : MapIs w b M) (hs : s < 9223372036854775808) (hq : q < 18446744073709551616)
    (h : ∀ w', MapIs w' b (fun s' q' => if s' = s ∧ q' = q then none else M s' q') → w.grownBy w' (some b) → Kc (a.put o.dst (.tuple #[])) w') :
    if Region.wanted o (yielded ops a.tmps) = true then Oper.wp Try.prog o a w Kc Q else E := by
  have hw : Region.wanted o (yielded ops a.tmps) = true := by simp [Region.wanted, hgd]
  rw [if_pos hw]
  obtain ⟨w', hr, h1, h2⟩ := hM.del hs hq o.type
  have hr' : (Builtin.delete_ #[56, 50] o.type #[.map (some b), .agg #[.int .i64 s, .int .u64 q]]).run Try.prog w = .ok (.tuple #[]) w' := hr
  unfold Oper.wp execOp
  simp only [ho, resolve, invoke, builtin, Sem.run_bind, Sem.run_pure, Result.andThen_ok, List.map_toArray, List.map_cons, List.map_nil, hm, hy, hr']
  exact h w' h1 h2

def upd (f : Nat → Nat) (k v : Nat) : Nat → Nat := fun i => if i = k then v else f i
theorem upd_same (f : Nat → Nat) (k v : Nat) : upd f k v k = v := by simp [upd]
theorem upd_ne {f : Nat → Nat} {k v i : Nat} (h : i ≠ k) : upd f k v i = f i := by simp [upd, h]

theorem addr_ne {b i j : Nat} (h : i ≠ j) : (⟨b, i, none⟩ : Addr) ≠ ⟨b, j, none⟩ := fun e => h (congrArg Addr.off e)

/-- Chain k has lost its oldest message. -/
def popR (R : Rep) (g : GS) (F : Nat → Nat) (k : Nat) : Rep :=
  { R with oP := upd R.oP k (R.oP k + g.n), cP := upd R.cP k (R.cP k - g.n), oA := upd R.oA k (R.oA k + 1), cA := upd R.cA k (R.cA k - 1),
           M := fun s q => if s = k ∧ q = F k then none else R.M s q }

theorem gc_pop {g : GS} {R : Rep} {wr : World} {F : Nat → Nat} {x k y : Nat} (h : GC wr R (fg g F x)) (ok : GOk (fg g F x)) (hk : k < g.n) (hlen : 1 < g.cnt k + 1 - F k) {w1 w2 w4 : World}
    (e1 : w1.heap = (wr.setCell ⟨R.gb, 5, none⟩ (.int .u64 y)).heap)
    (hM : MapIs w2 R.mb (fun s q => if s = k ∧ q = F k then none else R.M s q)) (hg : w1.grownBy w2 (some R.mb))
    (e4 : w4.heap = (((w2.setCell ⟨R.cb, k * 3, none⟩ (.int .u64 ((F k + 1 : Nat) : Int))).setCell ⟨R.cb, k * 3 + 1, none⟩ (.slice (some ⟨R.P k, R.oP k + g.n, none⟩) ((g.cnt k + 1 - F k) * g.n - g.n) (R.cP k - g.n))).setCell
      ⟨R.cb, k * 3 + 2, none⟩ (.slice (some ⟨R.A k, R.oA k + 1, none⟩) (g.cnt k + 1 - F k - 1) (R.cA k - 1))).heap) :
    GC w4 (popR R g F k) (fg g (upd F k (F k + 1)) y) := by
  have hF1 : 1 ≤ F k := ok.f1 k hk
  have hc0 : g.cnt k ≠ 0 := by omega
  have r1 := h.r1
  have r2 := h.r2
  have r5 := h.r5
  have ngc : R.gb ≠ R.cb := fun e => by rw [e, r2] at r1; simp at r1
  have ngm : R.gb ≠ R.mb := fun e => by rw [e, r5] at r1; simp at r1
  have ncm : R.cb ≠ R.mb := fun e => by rw [e, r5] at r2; simp at r2
  have s1 : w1.heap.size = wr.heap.size := by rw [e1]; simp
  have s4 : wr.heap.size ≤ w4.heap.size := by rw [e4]; simp; rw [← s1]; exact hg.size
  -- other blocks
  have oth : ∀ b, b ≠ R.gb → b ≠ R.cb → b ≠ R.mb → b < wr.heap.size → w4.heap[b]? = wr.heap[b]? := fun b h1 h2 h3 hb => by
    rw [e4, heap_setCell_other _ _ _ _ (by simpa using h2), heap_setCell_other _ _ _ _ (by simpa using h2), heap_setCell_other _ _ _ _ (by simpa using h2),
      hg.block b (by rw [s1]; exact hb) (by simpa using h3), e1, heap_setCell_other _ _ _ _ (by simpa using h1)]
  have role_oth : ∀ b, (R.role b).1 ≠ 0 → (R.role b).1 ≠ 1 → (R.role b).1 ≠ 2 → (R.role b).1 ≠ 5 → w4.heap[b]? = wr.heap[b]? := fun b h0 h1 h2 h5 =>
    oth b (fun e => by rw [e, r1] at h1; simp at h1) (fun e => by rw [e, r2] at h2; simp at h2) (fun e => by rw [e, r5] at h5; simp at h5) (h.rlt b h0)
  -- the struct's block
  have gblk : w4.heap[R.gb]? = (wr.setCell ⟨R.gb, 5, none⟩ (.int .u64 y)).heap[R.gb]? := by
    rw [e4, heap_setCell_other _ _ _ _ (by simpa using ngc), heap_setCell_other _ _ _ _ (by simpa using ngc), heap_setCell_other _ _ _ _ (by simpa using ngc),
      hg.block R.gb (by rw [s1]; exact h.lgb) (by simpa using ngm), e1]
  have gcell : ∀ i v, i ≠ 5 → wr.cell? ⟨R.gb, i, none⟩ = some v → w4.cell? ⟨R.gb, i, none⟩ = some v := fun i v hi hv => by
    rw [World.cell?_of_block (w := wr.setCell ⟨R.gb, 5, none⟩ (.int .u64 y)) (w' := w4) (a := ⟨R.gb, i, none⟩) gblk, World.cell?_setCell_other _ _ _ _ (addr_ne (by omega))]
    exact hv
  -- the chains' block
  have cblk2 : w2.heap[R.cb]? = wr.heap[R.cb]? := by
    rw [hg.block R.cb (by rw [s1]; exact h.lcb) (by simpa using ncm), e1, heap_setCell_other _ _ _ _ (by simpa using Ne.symm ngc)]
  have ccell : ∀ i v, i ≠ k * 3 → i ≠ k * 3 + 1 → i ≠ k * 3 + 2 → wr.cell? ⟨R.cb, i, none⟩ = some v → w4.cell? ⟨R.cb, i, none⟩ = some v := fun i v h1 h2 h3 hv => by
    have e : w4.cell? ⟨R.cb, i, none⟩ = w2.cell? ⟨R.cb, i, none⟩ := by
      unfold World.cell?
      rw [e4]
      show World.cell? _ ⟨R.cb, i, none⟩ = World.cell? _ ⟨R.cb, i, none⟩
      rw [World.cell?_setCell_other _ _ _ _ (addr_ne (by omega)), World.cell?_setCell_other _ _ _ _ (addr_ne (by omega)), World.cell?_setCell_other _ _ _ _ (addr_ne (by omega))]
    rw [e]
    exact cell_keep cblk2 hv
  have cb2 : Blk w2 R.cb 55 (g.n * 3) := h.cblk.of_block cblk2
  have hk0 : w2.cell? ⟨R.cb, k * 3, none⟩ = some (.int .u64 (F k)) := cell_keep cblk2 (h.c0 k hk)
  have hk1 := cell_keep (w' := w2) cblk2 (h.c1 k hk)
  have hk2 := cell_keep (w' := w2) cblk2 (h.c2 k hk)
  have n0 : w4.cell? ⟨R.cb, k * 3, none⟩ = some (.int .u64 ((F k + 1 : Nat) : Int)) := by
    unfold World.cell?
    rw [e4]
    show World.cell? _ ⟨R.cb, k * 3, none⟩ = _
    rw [World.cell?_setCell_other _ _ _ _ (addr_ne (by omega)), World.cell?_setCell_other _ _ _ _ (addr_ne (by omega)), World.cell?_setCell_same _ _ _ hk0]
  have n1 : w4.cell? ⟨R.cb, k * 3 + 1, none⟩ = some (.slice (some ⟨R.P k, R.oP k + g.n, none⟩) ((g.cnt k + 1 - F k) * g.n - g.n) (R.cP k - g.n)) := by
    unfold World.cell?
    rw [e4]
    show World.cell? _ ⟨R.cb, k * 3 + 1, none⟩ = _
    rw [World.cell?_setCell_other _ _ _ _ (addr_ne (by omega)), World.cell?_setCell_same _ _ _ (u := pv R (fg g F x) k) (by rw [World.cell?_setCell_other _ _ _ _ (addr_ne (by omega))]; exact hk1)]
  have n2 : w4.cell? ⟨R.cb, k * 3 + 2, none⟩ = some (.slice (some ⟨R.A k, R.oA k + 1, none⟩) (g.cnt k + 1 - F k - 1) (R.cA k - 1)) := by
    unfold World.cell?
    rw [e4]
    show World.cell? _ ⟨R.cb, k * 3 + 2, none⟩ = _
    rw [World.cell?_setCell_same _ _ _ (u := av R (fg g F x) k) (by rw [World.cell?_setCell_other _ _ _ _ (addr_ne (by omega)), World.cell?_setCell_other _ _ _ _ (addr_ne (by omega))]; exact hk2)]
  have mul1 : (g.cnt k + 1 - F k) * g.n - g.n = (g.cnt k + 1 - (F k + 1)) * g.n := by
    rw [show g.cnt k + 1 - F k = (g.cnt k + 1 - (F k + 1)) + 1 from by omega, Nat.add_mul]; omega
  have hn1 : 1 ≤ g.n := ok.n1
  exact
    { gblk := by obtain ⟨c, hc, hs⟩ := h.gblk.set 5 (.int .u64 y); exact ⟨c, gblk.trans hc, hs⟩
      g0 := gcell 0 _ (by omega) h.g0, g1 := gcell 1 _ (by omega) h.g1, g2 := gcell 2 _ (by omega) h.g2, g3 := gcell 3 _ (by omega) h.g3, g4 := gcell 4 _ (by omega) h.g4
      g5 := by
        show w4.cell? ⟨R.gb, 5, none⟩ = _
        rw [World.cell?_of_block (w := wr.setCell ⟨R.gb, 5, none⟩ (.int .u64 y)) (w' := w4) (a := ⟨R.gb, 5, none⟩) gblk, World.cell?_setCell_same _ _ _ h.g5]; rfl
      g6 := gcell 6 _ (by omega) h.g6, g7 := gcell 7 _ (by omega) h.g7
      cblk := by
        obtain ⟨c, hc, hs⟩ := ((cb2.set (k * 3) (.int .u64 ((F k + 1 : Nat) : Int))).set (k * 3 + 1) (.slice (some ⟨R.P k, R.oP k + g.n, none⟩) ((g.cnt k + 1 - F k) * g.n - g.n) (R.cP k - g.n))).set (k * 3 + 2) (.slice (some ⟨R.A k, R.oA k + 1, none⟩) (g.cnt k + 1 - F k - 1) (R.cA k - 1))
        exact ⟨c, by rw [e4]; exact hc, hs⟩
      c0 := fun j hj => by
        show w4.cell? ⟨R.cb, j * 3, none⟩ = some (.int .u64 ((upd F k (F k + 1) j : Nat) : Int))
        by_cases e : j = k
        · subst e; rw [upd_same]; exact n0
        · rw [upd_ne e]; exact ccell _ _ (by omega) (by omega) (by omega) (h.c0 j hj)
      c1 := fun j hj => by
        by_cases e : j = k
        · subst e
          show w4.cell? ⟨R.cb, j * 3 + 1, none⟩ = some (pv (popR R g F j) (fg g (upd F j (F j + 1)) y) j)
          rw [pv, if_neg (show ¬ (fg g (upd F j (F j + 1)) y).cnt j = 0 from hc0), n1]
          simp only [popR, fg, upd_same, mul1]
        · have e2 : pv (popR R g F k) (fg g (upd F k (F k + 1)) y) j = pv R (fg g F x) j := by simp [pv, popR, fg, upd_ne e]; rfl
          rw [e2]
          exact ccell _ _ (by omega) (by omega) (by omega) (h.c1 j hj)
      c2 := fun j hj => by
        by_cases e : j = k
        · subst e
          show w4.cell? ⟨R.cb, j * 3 + 2, none⟩ = some (av (popR R g F j) (fg g (upd F j (F j + 1)) y) j)
          rw [av, if_neg (show ¬ (fg g (upd F j (F j + 1)) y).cnt j = 0 from hc0), n2]
          simp only [popR, fg, upd_same]
          rw [show g.cnt j + 1 - F j - 1 = g.cnt j + 1 - (F j + 1) from by omega]
        · have e2 : av (popR R g F k) (fg g (upd F k (F k + 1)) y) j = av R (fg g F x) j := by simp [av, popR, fg, upd_ne e]; rfl
          rw [e2]
          exact ccell _ _ (by omega) (by omega) (by omega) (h.c2 j hj)
      pasts := fun j hj hc => by
        have hA := (h.pasts j hj hc).of_block (role_oth (R.P j) (by rw [h.r6 j hj hc]; simp) (by rw [h.r6 j hj hc]; simp) (by rw [h.r6 j hj hc]; simp) (by rw [h.r6 j hj hc]; simp))
        by_cases e : j = k
        · subst e
          have := hA.drop g.n (by show g.n ≤ (g.cnt j + 1 - F j) * g.n; exact Nat.le_mul_of_pos_left _ (by omega))
          simp only [popR, fg, upd_same] at this ⊢
          rw [mul1] at this
          refine this.congr (fun i hi => ?_)
          rw [show (g.n + i) / g.n = i / g.n + 1 from by rw [Nat.add_comm, Nat.add_div_right _ (by omega)], Nat.add_mod_left, show F j + (i / g.n + 1) = F j + 1 + i / g.n from by omega]
        · simp only [popR, fg, upd_ne e]
          exact hA
      ats := fun j hj hc => by
        have hA := (h.ats j hj hc).of_block (role_oth (R.A j) (by rw [h.r7 j hj hc]; simp) (by rw [h.r7 j hj hc]; simp) (by rw [h.r7 j hj hc]; simp) (by rw [h.r7 j hj hc]; simp))
        by_cases e : j = k
        · subst e
          have := hA.drop 1 (by show 1 ≤ g.cnt j + 1 - F j; omega)
          simp only [popR, fg, upd_same] at this ⊢
          rw [show g.cnt j + 1 - F j - 1 = g.cnt j + 1 - (F j + 1) from by omega] at this
          refine this.congr (fun i hi => ?_)
          rw [show F j + (1 + i) = F j + 1 + i from by omega]
        · simp only [popR, fg, upd_ne e]
          exact hA
      map := by
        have : w4.heap[R.mb]? = w2.heap[R.mb]? := by
          rw [e4, heap_setCell_other _ _ _ _ (by simpa using Ne.symm ncm), heap_setCell_other _ _ _ _ (by simpa using Ne.symm ncm), heap_setCell_other _ _ _ _ (by simpa using Ne.symm ncm)]
        exact hM.of_block this
      ups := fun j hj q h1 h2 => by
        have h1' : F j ≤ q := by
          by_cases e : j = k
          · subst e; have : upd F j (F j + 1) j ≤ q := h1; rw [upd_same] at this; omega
          · have : upd F k (F k + 1) j ≤ q := h1; rwa [upd_ne e] at this
        have hne : ¬ (j = k ∧ q = F k) := fun ⟨e, e'⟩ => by
          subst e; have : upd F j (F j + 1) j ≤ q := h1; rw [upd_same] at this; omega
        have hMq : (popR R g F k).M j q = R.M j q := by simp only [popR, if_neg hne]
        rw [hMq]
        rcases h.ups j hj q h1' h2 with h3 | ⟨b, o, c, h4, h5, h6⟩
        · exact .inl h3
        · exact .inr ⟨b, o, c, h4, h5, h6.of_block (role_oth b (by omega) (by omega) (by omega) (by omega))⟩
      mnew := fun j q hq => by
        show (if j = k ∧ q = F k then none else R.M j q) = none
        split
        · rfl
        · exact h.mnew j q hq
      r1 := h.r1, r2 := h.r2, r3 := h.r3, r4 := h.r4, r5 := h.r5, r6 := h.r6, r7 := h.r7, rlt := fun b hb => Nat.lt_of_lt_of_le (h.rlt b hb) s4, rbase := h.rbase }

theorem Done.of_same {g : GS} {F F' : Nat → Nat} {x x' i : Nat} (h : Done (fg g F x) i) (e : F' i = F i) : Done (fg g F' x') i := by
  have h1 : g.cnt i + 1 - F i ≤ 1 ∨ g.del - g.dn i (F i) < g.keep := h
  show g.cnt i + 1 - F' i ≤ 1 ∨ g.del - g.dn i (F' i) < g.keep
  rw [e]; exact h1

theorem fst_pop {g : GS} {R : Rep} {w : World} {k : Nat} {wr : World} {F : Nat → Nat} {x : Nat} {R' : Rep} {y m : Nat} {w1 w2 : World} (h : FSt g R w k wr F x R') (hk : k < g.n) (hlen : 1 < g.cnt k + 1 - F k)
    (hkp : g.keep ≤ g.del - g.dn k (F k)) (hy : y = max x (g.dn k (F k)))
    (e1 : w1 = (wr.drewN m).setCell ⟨R.gb, 5, none⟩ (.int .u64 (y : Int)))
    (hM : MapIs w2 R.mb (fun s q => if s = k ∧ q = F k then none else R'.M s q)) (hg : w1.grownBy w2 (some R.mb)) {len pl : Nat} (hl : len = g.cnt k + 1 - F k) (hp : pl = (g.cnt k + 1 - F k) * g.n) :
    FSt g R w k ((((w2.setCell ⟨R.cb, k * 3, none⟩ (.int .u64 ((F k : Int) + 1))).setCell ⟨R.cb, k * 3 + 1, none⟩ (.slice (some ⟨R'.P k, R'.oP k + g.n, none⟩) (pl - g.n) (R'.cP k - g.n))).setCell
      ⟨R.cb, k * 3 + 2, none⟩ (.slice (some ⟨R'.A k, R'.oA k + 1, none⟩) (len - 1) (R'.cA k - 1))).drew) (upd F k (F k + 1)) y (popR R' g F k) := by
  subst hl hp
  have hF1 : 1 ≤ F k := h.ok.f1 k hk
  have hle : ∀ i, F i ≤ upd F k (F k + 1) i := fun i => by
    by_cases e : i = k
    · subst e; rw [upd_same]; omega
    · rw [upd_ne e]; exact Nat.le_refl _
  refine { gc := ?_, ok := ?_, fs := ?_, dones := ?_, rep := ?_, bel := ?_, lh := ?_ }
  · refine gc_pop (w1 := w1) (w2 := w2) h.gc h.ok hk hlen ?_ ?_ ?_ ?_
    · rw [e1, h.rep.gb]; rfl
    · rw [h.rep.mb]; exact hM
    · rw [h.rep.mb]; exact hg
    · rw [h.rep.cb]; rfl
  · exact
      { n1 := h.ok.n1, n2 := h.ok.n2
        f1 := fun j hj => Nat.le_trans (h.ok.f1 j hj) (hle j)
        f2 := fun j hj hc => by
          show upd F k (F k + 1) j ≤ g.cnt j
          by_cases e : j = k
          · subst e; rw [upd_same]; omega
          · rw [upd_ne e]; exact h.ok.f2 j hj hc
        f3 := fun j hj hc => by
          show upd F k (F k + 1) j = 1
          have hc' : g.cnt j = 0 := hc
          by_cases e : j = k
          · subst e; omega
          · rw [upd_ne e]; exact h.ok.f3 j hj hc
        c1 := h.ok.c1, d1 := h.ok.d1, d2 := h.ok.d2
        t1 := fun j hj q h1 h2 => h.ok.t1 j hj q (Nat.le_trans (hle j) h1) h2 }
  · refine ⟨fun i => Nat.le_trans (h.fs.f1 i) (hle i), fun i hi q h1 h2 => ?_, by rw [hy]; exact Nat.le_trans h.fs.f3 (Nat.le_max_left _ _)⟩
    by_cases e : i = k ∧ q = F k
    · obtain ⟨rfl, rfl⟩ := e
      exact ⟨hkp, by rw [hy]; exact Nat.le_max_right _ _⟩
    · have h3 : q < F i := by
        by_cases e2 : i = k
        · subst e2; rw [upd_same] at h2; have : q ≠ F i := fun e3 => e ⟨rfl, e3⟩; omega
        · rwa [upd_ne e2] at h2
      have := h.fs.f2 i hi q h1 h3
      exact ⟨this.1, by rw [hy]; exact Nat.le_trans this.2 (Nat.le_max_left _ _)⟩
  · exact fun i hi => (h.dones i hi).of_same (upd_ne (by omega))
  · exact ⟨h.rep.gb, h.rep.cb, h.rep.mb, h.rep.lb, h.rep.hb, h.rep.base⟩
  · have ggb : R.base ≤ R.gb := by have := h.gc.rbase R'.gb (by rw [h.gc.r1]; simp); rwa [h.rep.base, h.rep.gb] at this
    have gcb : R.base ≤ R.cb := by have := h.gc.rbase R'.cb (by rw [h.gc.r2]; simp); rwa [h.rep.base, h.rep.cb] at this
    have gmb : R.base ≤ R.mb := by have := h.gc.rbase R'.mb (by rw [h.gc.r5]; simp); rwa [h.rep.base, h.rep.mb] at this
    have l1 : R.gb < wr.heap.size := by have := h.gc.lgb; rwa [h.rep.gb] at this
    have q1 : Below R.base w w1 := by rw [e1]; exact (below_drewN h.bel m).setCell (by exact ggb) _
    have s1 : R.base ≤ w1.heap.size := by rw [e1]; simp; omega
    exact ((((q1.grown hg s1 (fun k' hk' => by cases hk'; exact gmb)).setCell (by exact gcb) _).setCell (by exact gcb) _).setCell (by exact gcb) _).drew
  · have kp : ∀ b, b ≠ R.gb → b ≠ R.cb → b ≠ R.mb → b < wr.heap.size → ((((w2.setCell ⟨R.cb, k * 3, none⟩ (.int .u64 ((F k : Int) + 1))).setCell ⟨R.cb, k * 3 + 1, none⟩ (.slice (some ⟨R'.P k, R'.oP k + g.n, none⟩) ((g.cnt k + 1 - F k) * g.n - g.n) (R'.cP k - g.n))).setCell
      ⟨R.cb, k * 3 + 2, none⟩ (.slice (some ⟨R'.A k, R'.oA k + 1, none⟩) (g.cnt k + 1 - F k - 1) (R'.cA k - 1))).drew).heap[b]? = wr.heap[b]? := fun b h1 h2 h3 h4 => by
      rw [heap_drew, heap_setCell_other _ _ _ _ (by simpa using h2), heap_setCell_other _ _ _ _ (by simpa using h2), heap_setCell_other _ _ _ _ (by simpa using h2),
        hg.block b (by rw [e1]; simpa using h4) (by simpa using h3), e1, heap_setCell_other _ _ _ _ (by simpa using h1)]
      rfl
    have r1 := h.gc.r1
    have r2 := h.gc.r2
    have r5 := h.gc.r5
    have r3 := h.gc.r3
    have r4 := h.gc.r4
    have l3 := h.gc.rlt R'.lb (by rw [r3]; simp)
    have l4 := h.gc.rlt R'.hb (by rw [r4]; simp)
    rw [h.rep.gb] at r1
    rw [h.rep.cb] at r2
    rw [h.rep.mb] at r5
    rw [h.rep.lb] at r3 l3
    rw [h.rep.hb] at r4 l4
    exact ⟨(kp R.lb (fun e => by rw [e, r1] at r3; simp at r3) (fun e => by rw [e, r2] at r3; simp at r3) (fun e => by rw [e, r5] at r3; simp at r3) l3).trans h.lh.1,
      (kp R.hb (fun e => by rw [e, r1] at r4; simp at r4) (fun e => by rw [e, r2] at r4; simp at r4) (fun e => by rw [e, r5] at r4; simp at r4) l4).trans h.lh.2⟩

theorem FSt.next {g : GS} {R : Rep} {w : World} {k : Nat} {wr : World} {F : Nat → Nat} {x : Nat} {R' : Rep} (h : FSt g R w k wr F x R') (hd : Done (fg g F x) k) (m : Nat) : FSt g R w (k + 1) (wr.drewN m) F x R' :=
  { gc := h.gc.keep (Nat.le_refl _) (fun _ _ _ _ => rfl), ok := h.ok, fs := h.fs, rep := h.rep, bel := below_drewN h.bel m, lh := h.lh
    dones := fun i hi => by
      by_cases e : i = k
      · rw [e]; exact hd
      · exact h.dones i (by omega) }

theorem FSt.start {g : GS} {R : Rep} {w : World} (h : GC w R g) (ok : GOk g) : FSt g R w 0 w g.first g.fgt R :=
  { gc := h, ok := ok, fs := ⟨fun _ => Nat.le_refl _, fun i hi q h1 h2 => by omega, Nat.le_refl _⟩, dones := fun i hi => by omega, rep := ⟨rfl, rfl, rfl, rfl, rfl, rfl⟩, bel := Below.refl _ _, lh := ⟨rfl, rfl⟩ }

theorem ite_max (x d : Nat) : (if x < d then (d : Int) else (x : Int)) = ((max x d : Nat) : Int) := by
  split <;> omega

set_option maxRecDepth 100000 in
set_option maxHeartbeats 2000000 in
theorem forget_any (g : GS) (R : Rep) (w : World) (h : GC w R g) (ok : GOk g) :
    Calls Try.prog 43 #[.pointer (some ⟨R.gb, 0, none⟩)] w fun e w' => e = .returned (.tuple #[]) ∧ FRel g R w g.n w' := by
  have n2 := ok.n2
  have q0 := h.g2
  go_enter Try.func43, Try.ntmps43
  go_wp2
  go_loopg [9] g.n (fun gk i wr => ∃ k : Nat, k + gk = g.n ∧ i = .int .i64 k ∧ FRel g R w k wr)
  case atStart => exact ⟨0, by omega, rfl, _, _, _, FSt.start h ok⟩
  case round =>
    obtain ⟨k, hk, rfl, hrel⟩ := hrel
    by_cases hlt : k < g.n
    · have p2 : wr.cell? ⟨R.gb, 2, none⟩ = some (.slice (some ⟨R.cb, 0, none⟩) g.n g.n) := by
        obtain ⟨F, x, R', hs⟩ := hrel
        have := hs.gc.g2; rw [hs.rep.gb, hs.rep.cb] at this; exact this
      have hlt' : (k : Int) < (g.n : Int) := by omega
      clear h ok q0
      go_wp2
      clear p2
      obtain ⟨m0, hm0⟩ : ∃ m, FRelI g R w k m wr := by
        obtain ⟨F, x, R', hs⟩ := hrel
        exact ⟨_, F, x, R', rfl, hs⟩
      clear hrel
      go_loopg [18] m0 (fun m i wi => FRelI g R w k m wi)
      case atStart => exact hm0
      case round =>
        clear hm0
        obtain ⟨F, x, R', hm, hs⟩ := hrel
        have HS : Hid (g.cnt k + 1 - F k = gk ∧ FSt g R w k wr F x R') := ⟨hm, hs⟩
        by_cases hlen : 1 < g.cnt k + 1 - F k
        · have hc0 : g.cnt k ≠ 0 := by
            intro e
            have := hs.ok.f1 k hlt
            have h1 : 1 ≤ F k := this
            omega
          have ha := hs.gc.ats k hlt hc0
          have hp := hs.gc.pasts k hlt hc0
          have d1 : wr.cell? ⟨R.cb, k * 3 + 2, none⟩ = some (.slice (some ⟨R'.A k, R'.oA k, none⟩) (g.cnt k + 1 - F k) (R'.cA k)) := by
            have := hs.gc.c2 k hlt
            rw [hs.rep.cb, av, if_neg (show ¬ (fg g F x).cnt k = 0 from hc0)] at this
            exact this
          have d2 : wr.cell? ⟨R'.A k, R'.oA k, none⟩ = some (.int .u64 (g.dn k (F k))) := ha.seg 0 (by show 0 < g.cnt k + 1 - F k; omega)
          have d3 : wr.cell? ⟨R.gb, 4, none⟩ = some (.int .u64 g.del) := by have := hs.gc.g4; rw [hs.rep.gb] at this; exact this
          have d4 : wr.cell? ⟨R.gb, 1, none⟩ = some (.int .u64 g.keep) := by have := hs.gc.g1; rw [hs.rep.gb] at this; exact this
          have d5 : g.dn k (F k) ≤ g.del := hs.ok.t1 k hlt (F k) (Nat.le_refl _) (by show F k ≤ g.cnt k; omega)
          have d6 : g.del ≤ 4096 := hs.ok.d1
          have d7 : g.cnt k ≤ g.del := hs.ok.c1 k hlt
          obtain ⟨len, hle⟩ : ∃ len, len = g.cnt k + 1 - F k := ⟨_, rfl⟩
          rw [← hle] at d1 hlen
          have HL : Hid (len = g.cnt k + 1 - F k) := hle
          have hl1 : (1 : Int) < (len : Int) := by omega
          have hl2 : len ≤ 4097 := by omega
          have hl3 : len ≤ R'.cA k := by rw [hle]; exact ha.le
          by_cases hkp : g.keep ≤ g.del - g.dn k (F k)
          · have hdec : decide ((g.keep : Int) ≤ (g.del : Int) - (g.dn k (F k) : Int)) = true := by simp; omega
            have d8 : wr.cell? ⟨R.gb, 5, none⟩ = some (.int .u64 x) := by have := hs.gc.g5; rw [hs.rep.gb] at this; exact this
            have d9 : wr.frozen? ⟨R.gb, 5, none⟩ = false := by have := hs.gc.gblk.frozen 5; rw [hs.rep.gb] at this; exact this
            clear hs hm ha hle hp
            go_wp2
            go_quiet (fail)
            go_wp2
            go_region
            rw [ite_max]
            obtain ⟨y, hy⟩ : ∃ y, y = max x (g.dn k (F k)) := ⟨_, rfl⟩
            rw [← hy]
            obtain ⟨w1, hw1⟩ : ∃ w1, w1 = (wr.drewN (nq + 1)).setCell ⟨R.gb, 5, none⟩ (.int .u64 (y : Int)) := ⟨_, rfl⟩
            rw [← hw1]
            have hs := HS.out.2
            have HY : Hid (y = max x (g.dn k (F k)) ∧ w1 = (wr.drewN (nq + 1)).setCell ⟨R.gb, 5, none⟩ (.int .u64 (y : Int)) ∧ g.keep ≤ g.del - g.dn k (F k)) := ⟨hy, hw1, hkp⟩
            have ngc : R.gb ≠ R.cb := fun e => by have h1 := hs.gc.r1; have h2 := hs.gc.r2; rw [hs.rep.gb] at h1; rw [hs.rep.cb, ← e, h1] at h2; simp at h2
            have ngm : R.gb ≠ R.mb := fun e => by have h1 := hs.gc.r1; have h2 := hs.gc.r5; rw [hs.rep.gb] at h1; rw [hs.rep.mb, ← e, h1] at h2; simp at h2
            have ncm : R.cb ≠ R.mb := fun e => by have h1 := hs.gc.r2; have h2 := hs.gc.r5; rw [hs.rep.cb] at h1; rw [hs.rep.mb, ← e, h1] at h2; simp at h2
            have b1 : w1.heap[R.cb]? = wr.heap[R.cb]? := by rw [hw1, heap_setCell_other _ _ _ _ (by simpa using Ne.symm ngc)]; rfl
            have b2 : w1.heap[R.mb]? = wr.heap[R.mb]? := by rw [hw1, heap_setCell_other _ _ _ _ (by simpa using Ne.symm ngm)]; rfl
            have e1 : w1.cell? ⟨R.gb, 3, none⟩ = some (.map (some R.mb)) := by
              have := hs.gc.g3; rw [hs.rep.gb, hs.rep.mb] at this
              rw [hw1, World.cell?_setCell_other _ _ _ _ (addr_ne (by omega))]; exact this
            have e2 : w1.cell? ⟨R.cb, k * 3, none⟩ = some (.int .u64 (F k)) := by
              have := hs.gc.c0 k hlt; rw [hs.rep.cb] at this
              exact cell_keep b1 this
            have HM : Hid (MapIs w1 R.mb R'.M) := by
              have := hs.gc.map; rw [hs.rep.mb] at this
              exact this.of_block b2
            have hF1 : F k ≤ 4096 := by have := HL.out; omega
            have lgb1 : R.gb < w1.heap.size := World.block_lt_of_cell? _ _ e1
            have lcb1 : R.cb < w1.heap.size := World.block_lt_of_cell? _ _ e2
            clear hs hy hw1 hkp d1 d2 d3 d4 d8 d9 hdec
            go_wp2
            go_region_held3 (fun w' => w'.cell? ⟨R.gb, 3, none⟩ = some (.map (some R.mb)) ∧ w'.cell? ⟨R.cb, k * 3, none⟩ = some (.int .u64 (F k)))
              (first
                | go_keep
                | (go_split_ands
                   refine ⟨?_, ?_⟩
                   · (rw [hg2.cell_far _ lgb1 (by simpa using ngm)]; assumption)
                   · (rw [hg2.cell_far _ lcb1 (by simpa using ncm)]; assumption)))
              ((refine step_delete (by rfl) (.tmp 59) (.tmp 65) (by rfl) R.mb k (F k) R'.M (by simp [Act.eval, Act.put]) (by simp [Act.eval, Act.put]) (by exact HM.out) (by omega) (by omega) ?_; intro w2 hM2 hg2))
            have hs := HS.out.2
            have b3 : w2.heap[R.cb]? = wr.heap[R.cb]? := (hg2.block R.cb lcb1 (by simpa using ncm)).trans b1
            have b4 : w2.heap[R.gb]? = w1.heap[R.gb]? := hg2.block R.gb lgb1 (by simpa using ngm)
            have f0 : w2.cell? ⟨R.cb, k * 3, none⟩ = some (.int .u64 (F k)) := by
              have := hs.gc.c0 k hlt; rw [hs.rep.cb] at this
              exact cell_keep b3 this
            have f1 : w2.cell? ⟨R.cb, k * 3 + 1, none⟩ = some (.slice (some ⟨R'.P k, R'.oP k, none⟩) ((g.cnt k + 1 - F k) * g.n) (R'.cP k)) := by
              have := hs.gc.c1 k hlt
              rw [hs.rep.cb, pv, if_neg (show ¬ (fg g F x).cnt k = 0 from hc0)] at this
              exact cell_keep b3 this
            have f2 : w2.cell? ⟨R.cb, k * 3 + 2, none⟩ = some (.slice (some ⟨R'.A k, R'.oA k, none⟩) len (R'.cA k)) := by
              have := hs.gc.c2 k hlt
              rw [hs.rep.cb, av, if_neg (show ¬ (fg g F x).cnt k = 0 from hc0)] at this
              have h2 := cell_keep b3 this
              rw [HL.out]; exact h2
            have f3 : w2.cell? ⟨R.gb, 0, none⟩ = some (.int .i64 g.n) := by
              have := hs.gc.g0; rw [hs.rep.gb] at this
              refine cell_keep b4 ?_
              rw [HY.out.2.1, World.cell?_setCell_other _ _ _ _ (addr_ne (by omega))]; exact this
            have fz : ∀ i, w2.frozen? ⟨R.cb, i, none⟩ = false := fun i => by
              have := hs.gc.cblk; rw [hs.rep.cb] at this
              exact (this.of_block b3).frozen i
            have fz0 := fz (k * 3)
            have fz1 := fz (k * 3 + 1)
            have fz2 := fz (k * 3 + 2)
            have hpl : (g.cnt k + 1 - F k) * g.n ≤ R'.cP k := (hs.gc.pasts k hlt hc0).le
            have hn1 : 1 ≤ g.n := hs.ok.n1
            obtain ⟨pl, hpe⟩ : ∃ pl, pl = (g.cnt k + 1 - F k) * g.n := ⟨_, rfl⟩
            rw [← hpe] at f1 hpl
            have hp2 : g.n < pl := by
              rw [hpe, ← HL.out]
              exact (Nat.lt_mul_iff_one_lt_left (by omega)).2 hlen
            have HP : Hid (pl = (g.cnt k + 1 - F k) * g.n) := hpe
            have HB : Hid (w2.heap[R.cb]? = wr.heap[R.cb]? ∧ w2.heap[R.gb]? = w1.heap[R.gb]? ∧ MapIs w2 R.mb (fun s' q' => if s' = k ∧ q' = F k then none else R'.M s' q') ∧ w1.drew.grownBy w2 (some R.mb)) := ⟨b3, b4, hM2, hg2⟩
            clear hs b1 b2 b3 b4 e1 e2 fz hpe hM2 hg2 HM
            go_wp2
            go_region
            go_wp2
            go_roundg (gk - 1)
            case measure => have := HS.out.1; have := HL.out; omega
            case rel =>
              have hs := HS.out
              exact ⟨_, _, _, by rw [upd_same]; omega, fst_pop hs.2 hlt (by rw [← HL.out]; exact hlen) HY.out.2.2 HY.out.1 HY.out.2.1 HB.out.2.2.1 (grownBy_trans (grownBy_drew _ _) HB.out.2.2.2) HL.out HP.out⟩
          · have hdec : decide ((g.keep : Int) ≤ (g.del : Int) - (g.dn k (F k) : Int)) = false := by simp; omega
            have HD : Hid (Done (fg g F x) k) := Or.inr (by show g.del - g.dn k (F k) < g.keep; omega)
            clear hs hm ha hle hp
            go_wp2
            go_quiet (fail)
            go_wp2
            go_roundg (g.n - k - 1)
            case measure => omega
            case rel => exact ⟨k + 1, by omega, by go_num, _, _, _, HS.out.2.next HD.out _⟩
        · obtain ⟨ao, cap, d1⟩ := hs.len hlt
          obtain ⟨len, hle⟩ : ∃ len, len = g.cnt k + 1 - F k := ⟨_, rfl⟩
          rw [← hle] at d1 hlen
          have HD : Hid (Done (fg g F x) k) := Or.inl (by show g.cnt k + 1 - F k ≤ 1; omega)
          have hdec : decide ((1 : Int) < (len : Int)) = false := by simp; omega
          clear hs hm hle
          go_wp2
          go_quiet (fail)
          go_wp2
          go_roundg (g.n - k - 1)
          case measure => omega
          case rel => exact ⟨k + 1, by omega, by go_num, _, _, _, HS.out.2.next HD.out _⟩
    · have e : k = g.n := by omega
      subst e
      clear h ok q0
      go_wp2
      go_end0
      exact ⟨rfl, hrel⟩

end Go.Proofs.Qxb6605249a

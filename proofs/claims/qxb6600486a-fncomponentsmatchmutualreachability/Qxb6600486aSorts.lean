/-
  slices.Sort (29) AND slices.SortFunc (30), BY THEIR CONTRACTS.
-/
import Derived.Shelf.SortM.Plain
import Derived.Shelf.SortM.SortNone
import Derived.Shelf.SlSortCmp.Whole1
import Derived.Shelf.SlSortCmp.NoneTotal
import Derived.Shelf.SlGeneric
import Derived.Ground.SlsfProg
import Derived.Ground.SlgmProg
import Derived.Test.Qxb6600486aTStep2
set_option linter.unusedVariables false
set_option linter.unusedSimpArgs false
namespace Go.Proofs
open Go.Shelf
shelf_lay_g SlLaysM.n5 Slgm 5 at Try 29 as Try.laysSort
shelf_lay_g SlLaysF.n6 Slsf 6 at Try 30 as Try.laysSortFunc
end Go.Proofs

namespace Go.Proofs.Qxb6600486a
open Go.Shelf Go.RowKit Go.Lib Go.Sort

section
variable {α : Type} [Inhabited α]

theorem sw_grownBy (enc : α → Value) (w : World) (k b o : Nat) (d : Array α) (os : Array Obj) : w.grownBy (grow (putRow enc (Sort.ahead w k) b o d) os) (some b) :=
  ⟨rfl, rfl, rfl, by simp [Sort.ahead], fun i hi hne => by
    show ((w.heap.modify b _) ++ os)[i]? = _
    rw [Array.getElem?_append_left (by simpa using hi), Array.getElem?_modify, if_neg (fun e => hne (by rw [e]))]⟩

theorem sw_cell (enc : α → Value) (w : World) (k b o : Nat) (d0 d : Array α) (os : Array Obj) (h0 : Holds enc w b o d0) (hs : d.size = d0.size) (hb : b < w.heap.size) (j : Nat) (hj : j < d.size) :
    (grow (putRow enc (Sort.ahead w k) b o d) os).cell? ⟨b, o + j, none⟩ = some (enc d[j]!) := by
  have h1 := (holds_putRow enc (Sort.ahead w k) b o d0 d (holds_ahead enc w k b o d0 h0) hs j hj).1
  rw [cell?_grow _ os _ (World.block_lt_of_cell? _ _ h1)]
  exact h1

theorem sw_block (enc : α → Value) (w : World) (k b o : Nat) (d : Array α) (os : Array Obj) (hb : b < w.heap.size) {c : Array Value} {t : TypeId} (hc : w.heap[b]? = some (.cells c t (0, 0))) :
    ∃ c' : Array Value, (grow (putRow enc (Sort.ahead w k) b o d) os).heap[b]? = some (.cells c' t (0, 0)) ∧ c'.size = c.size := by
  refine ⟨putCells enc o d c, ?_, by simp [putCells]⟩
  show ((w.heap.modify b _) ++ os)[b]? = _
  rw [Array.getElem?_append_left (by simpa using hb), Array.getElem?_modify, if_pos rfl, hc]
  rfl

end

/-- What slices.Sort leaves. -/
def SortQ (w : World) (b o len : Nat) (f : Nat → Nat) (w' : World) : Prop :=
  ∃ g : Nat → Nat, Seg w' b o len (fun i => iv (g i)) ∧ (∀ i j, i < j → j < len → g i < g j) ∧ (∀ x, (∃ i, i < len ∧ g i = x) ↔ ∃ i, i < len ∧ f i = x) ∧ w.grownBy w' (some b)

theorem sort_any (w : World) (b o len cap cap' : Nat) (f : Nat → Nat) (hA : App w 3 b o len cap' (fun i => .int .i64 (f i))) (hl : len ≤ 100000) (hinj : ∀ i j, i < j → j < len → f i ≠ f j) :
    Calls Try.prog 29 #[.slice (some ⟨b, o, none⟩) len cap] w fun e w' => e = .returned (.tuple #[]) ∧ SortQ w b o len f w' := by
  obtain ⟨zs, hzs⟩ : ∃ zs, zs = (List.range len).map (fun i => (f i : Int)) := ⟨_, rfl⟩
  have hlen : zs.length = len := by rw [hzs]; simp
  have hget : ∀ j, j < len → zs.toArray[j]! = (f j : Int) := fun j hj => by
    rw [hzs]
    simp [hj]
  have hH : Holds (Value.int .i64) w b o zs.toArray := fun j hj => by
    have hj' : j < len := by rw [← hlen]; simpa using hj
    obtain ⟨c, hc, _⟩ := hA.blk
    rw [hget j hj']
    exact ⟨hA.seg j hj', frozen_of_row w b _ c 3 hc⟩
  have hcon := AnyM.slices_Sort_int Try.laysSort b o cap zs w hH hA.lt (by omega)
  change Calls Try.prog 29 _ _ _ at hcon
  rw [hlen] at hcon
  refine hcon.mono ?_
  rintro e w' ⟨rfl, k, os, rfl⟩
  refine ⟨rfl, ?_⟩
  obtain ⟨ys, hys⟩ : ∃ ys, ys = zs.mergeSort (fun x y => decide (x ≤ y)) := ⟨_, rfl⟩
  rw [← hys]
  have hperm : ys.Perm zs := by rw [hys]; exact List.mergeSort_perm _ _
  have hyl : ys.length = len := hperm.length_eq.trans hlen
  have hsorted : List.Pairwise (fun a b => decide (a ≤ b) = true) ys := by
    rw [hys]
    exact List.pairwise_mergeSort (fun a b c h1 h2 => by simp at h1 h2 ⊢; omega) (fun a b => by simp; omega) _
  have hnd : zs.Nodup := by
    rw [hzs]
    refine List.pairwise_iff_getElem.2 (fun i j hi hj hij => ?_)
    simp at hi hj ⊢
    have := hinj i j hij hj
    omega
  have hnd2 : ys.Nodup := hperm.nodup_iff.2 hnd
  have hmem : ∀ z : Int, z ∈ ys ↔ ∃ i, i < len ∧ (f i : Int) = z := fun z => by
    rw [hperm.mem_iff, hzs]
    simp
  have hgv : ∀ i (hi : i < ys.length), ys[i] = ((ys[i].toNat : Nat) : Int) := fun i hi => by
    obtain ⟨j, _, e⟩ := (hmem ys[i]).1 (List.getElem_mem hi)
    omega
  refine ⟨fun i => (ys[i]!).toNat, fun i hi => ?_, fun i j hij hj => ?_, fun x => ?_, sw_grownBy _ _ _ _ _ _ _⟩
  · have := sw_cell (Value.int .i64) w k b o zs.toArray ys.toArray os hH (by simp [hyl, hlen]) hA.lt i (by simpa [hyl] using hi)
    rw [this]
    have hi' : i < ys.length := by omega
    show some (Value.int .i64 ys.toArray[i]!) = some (Value.int .i64 (((ys[i]!).toNat : Nat) : Int))
    have e1 : ys.toArray[i]! = ys[i]! := by simp [hi']
    have e2 : ys[i]! = ys[i] := getElem!_pos ys i hi'
    rw [e1, e2, ← hgv i hi']
  · have hi' : i < ys.length := by omega
    have hj' : j < ys.length := by omega
    have h1 := List.pairwise_iff_getElem.1 hsorted i j hi' hj' hij
    have h2 := List.pairwise_iff_getElem.1 hnd2 i j hi' hj' hij
    have e1 : ys[i]! = ys[i] := getElem!_pos ys i hi'
    have e2 : ys[j]! = ys[j] := getElem!_pos ys j hj'
    have g1 := hgv i hi'
    have g2 := hgv j hj'
    show (ys[i]!).toNat < (ys[j]!).toNat
    rw [e1, e2]
    simp at h1
    omega
  · constructor
    · rintro ⟨i, hi, e⟩
      have hi' : i < ys.length := by omega
      have e1 : ys[i]! = ys[i] := getElem!_pos ys i hi'
      have g1 := hgv i hi'
      obtain ⟨j, hj, e2⟩ := (hmem ys[i]).1 (List.getElem_mem hi')
      have e' : (ys[i]!).toNat = x := e
      rw [e1] at e'
      exact ⟨j, hj, by omega⟩
    · rintro ⟨i, hi, e⟩
      have := (hmem (x : Int)).2 ⟨i, hi, by rw [e]⟩
      obtain ⟨j, hj, e2⟩ := List.getElem_of_mem this
      refine ⟨j, by omega, ?_⟩
      show (ys[j]!).toNat = x
      rw [getElem!_pos ys j hj, e2]
      simp

/-! ### slices.SortFunc -/

theorem extract_all {α : Type} (d : Array α) (K : Nat) (h : d.size = K) : d.extract 0 K = d := by subst h; simp

theorem cmp31 (w : World) (xb xo xl xc yb yo yl yc x y : Nat) (hx : w.cell? ⟨xb, xo, none⟩ = some (.int .i64 (x : Int))) (hy : w.cell? ⟨yb, yo, none⟩ = some (.int .i64 (y : Int))) (hx1 : 0 < xl) (hy1 : 0 < yl) (hxb : x ≤ 100000) (hyb : y ≤ 100000) :
    Calls Try.prog 31 #[.slice (some ⟨xb, xo, none⟩) xl xc, .slice (some ⟨yb, yo, none⟩) yl yc] w fun e w' => e = .returned (.int .i64 ((x : Int) - (y : Int))) ∧ ∃ q, w' = w.drewN q := by
  have h1 : (0 : Int) < (xl : Int) := by omega
  have h2 : (0 : Int) < (yl : Int) := by omega
  have h3 : (x : Int) ≤ 100000 := by omega
  have h4 : (y : Int) ≤ 100000 := by omega
  go_enter Try.func31, Try.ntmps31
  go_wp2_with fail
  go_quiet (fail)
  go_wp2_with fail
  go_ret
  exact ⟨rfl, nq, rfl⟩

/-- What slices.SortFunc leaves: the list in another order. -/
def SFQ (w : World) (ov : Value) (K : Nat) (cb co cc ln : Nat → Nat) (C : Nat → Nat → Nat) (w' : World) : Prop :=
  ∃ p : Nat → Nat, (∀ c, c < K → p c < K) ∧ (∀ c, c < K → ∃ d, d < K ∧ p d = c) ∧ (∀ c d, c < d → d < K → C (p c) 0 < C (p d) 0) ∧
    AppV w' 22 ov K (fun c => .slice (some ⟨cb (p c), co (p c), none⟩) (ln (p c)) (cc (p c))) ∧ w.grownBy w' ov.ownBlock

theorem sortFunc_none (w : World) (p : Option Addr) (cap : Nat) (fv : Value) : Calls Try.prog 30 #[.slice p 0 cap, fv] w fun e w' => e = .returned (.tuple #[]) ∧ w' = w := by
  have h := AnyF.slices_SortFunc_none (P := Try.prog) (ρ := Try.laysSortFunc_ren) { Try.laysSortFunc with } p cap fv w
  exact h

theorem sortFunc_any (w : World) (b o cap K : Nat) (cb co cc ln : Nat → Nat) (C : Nat → Nat → Nat) (hK : 0 < K) (hKb : K ≤ 100000) (hA : App w 22 b o K cap (fun c => .slice (some ⟨cb c, co c, none⟩) (ln c) (cc c)))
    (hcl : ∀ c, c < K → 0 < ln c ∧ w.cell? ⟨cb c, co c, none⟩ = some (.int .i64 (C c 0 : Int)) ∧ cb c < w.heap.size ∧ cb c ≠ b ∧ C c 0 ≤ 100000) (hdis : ∀ c d, c < d → d < K → C c 0 ≠ C d 0) :
    Calls Try.prog 30 #[.slice (some ⟨b, o, none⟩) K cap, .func (.func 31) #[] #[]] w fun e w' => e = .returned (.tuple #[]) ∧ SFQ w (.slice (some ⟨b, o, none⟩) K cap) K cb co cc ln C w' := by
  haveI : Inhabited (Fin K) := ⟨⟨0, hK⟩⟩
  obtain ⟨d, hd⟩ : ∃ d, d = (List.finRange K).toArray := ⟨_, rfl⟩
  have hds : d.size = K := by rw [hd]; simp
  have hget : ∀ j (hj : j < K), d[j]! = ⟨j, hj⟩ := fun j hj => by
    rw [getElem!_pos d j (by omega)]
    subst hd
    simp
  have hlt := hA.lt
  have hH : Holds (fun i : Fin K => Value.slice (some ⟨cb i, co i, none⟩) (ln i) (cc i)) w b o d := fun j hj => by
    have hj' : j < K := by omega
    obtain ⟨c, hc, _⟩ := hA.blk
    rw [hget j hj']
    exact ⟨hA.seg j hj', frozen_of_row w b _ c 22 hc⟩
  have hO : SWO (ltOf fun i j : Fin K => (C i 0 : Int) - (C j 0 : Int)) :=
    { irrefl := fun x => by simp [ltOf]
      trans := fun x y z h1 h2 => by simp [ltOf] at h1 h2 ⊢; omega
      ntrans := fun x y z h1 h2 => by simp [ltOf] at h1 h2 ⊢; omega }
  have eg : ∀ args w, (callFunc 31 args).run Try.prog w = .ok (.enter 31 args) w := enters_of Try.func31 (by kernel_rfl) rfl
  have hcmp : CmpLays1 Try.prog 31 #[] (fun i : Fin K => Value.slice (some ⟨cb i, co i, none⟩) (ln i) (cc i)) (fun i j : Fin K => (C i 0 : Int) - (C j 0 : Int)) b o d.size w := by
    intro q os dk hs x y
    have hg := sw_grownBy (fun i : Fin K => Value.slice (some ⟨cb i, co i, none⟩) (ln i) (cc i)) w q b o dk os
    have hx := hcl x x.isLt
    have hy := hcl y y.isLt
    have c1 := cell_keep (hg.block (cb x) hx.2.2.1 (fun e => hx.2.2.2.1 (by cases e; rfl))) hx.2.1
    have c2 := cell_keep (hg.block (cb y) hy.2.2.1 (fun e => hy.2.2.2.1 (by cases e; rfl))) hy.2.1
    refine (cmp31 _ _ _ _ (cc x) _ _ _ (cc y) _ _ c1 c2 hx.1 hy.1 hx.2.2.2.2 hy.2.2.2.2).mono ?_
    rintro e w' ⟨he, q', hq⟩
    exact ⟨he, q', #[], by rw [hq, grow_empty]; rfl⟩
  have hcon := Any.slices_SortFunc (α := Fin K) Try.laysSortFunc (fun i : Fin K => Value.slice (some ⟨cb i, co i, none⟩) (ln i) (cc i)) (fun _ => rfl) (fun i j : Fin K => (C i 0 : Int) - (C j 0 : Int)) hO 31 #[] b o cap d w eg hcmp hH hlt (by omega)
  change Calls Try.prog 30 _ _ _ at hcon
  rw [hds] at hcon
  refine hcon.mono ?_
  rintro e w' ⟨rfl, d', k, os, hperm, hsort, rfl⟩
  refine ⟨rfl, ?_⟩
  have hs' : d'.size = K := hperm.1.trans hds
  have hp3 : d'.toList.Perm d.toList := by
    have := hperm.2.2
    rw [extract_all d' K hs', extract_all d K hds] at this
    exact this
  have hnd : d.toList.Nodup := by rw [hd]; simpa using List.nodup_finRange K
  have hnd' : d'.toList.Nodup := hp3.nodup_iff.2 hnd
  have hg' : ∀ j (hj : j < K), d'[j]! = d'.toList[j]'(by simpa [hs'] using hj) := fun j hj => by
    rw [getElem!_pos d' j (by omega)]
    simp
  refine ⟨fun c => (d'[c]!).val, fun c hc => (d'[c]!).isLt, fun c hc => ?_, fun c e hce he => ?_, .inr ⟨b, o, cap, rfl, ?_, hA.le, fun i hi => ?_⟩, sw_grownBy _ _ _ _ _ _ _⟩
  · have hm : (⟨c, hc⟩ : Fin K) ∈ d'.toList := hp3.mem_iff.2 (by rw [hd]; simp)
    obtain ⟨j, hj, e⟩ := List.getElem_of_mem hm
    have hj' : j < K := by simpa [hs'] using hj
    refine ⟨j, hj', ?_⟩
    show (d'[j]!).val = c
    rw [hg' j hj', e]
  · have h1 := hsort c e (Nat.zero_le _) hce he
    have hne : (d'[c]!) ≠ (d'[e]!) := by
      rw [hg' c (by omega), hg' e he]
      exact List.pairwise_iff_getElem.1 hnd' c e _ _ hce
    have hne2 : (d'[c]!).val ≠ (d'[e]!).val := fun e2 => hne (Fin.ext e2)
    have hcd : C (d'[c]!).val 0 ≠ C (d'[e]!).val 0 := by
      rcases Nat.lt_or_gt_of_ne hne2 with h2 | h2
      · exact hdis _ _ h2 (d'[e]!).isLt
      · exact fun e2 => hdis _ _ h2 (d'[c]!).isLt e2.symm
    simp [ltOf] at h1
    show C (d'[c]!).val 0 < C (d'[e]!).val 0
    omega
  · obtain ⟨c, hc, hcs⟩ := hA.blk
    obtain ⟨c', h1, h2⟩ := sw_block (fun i : Fin K => Value.slice (some ⟨cb i, co i, none⟩) (ln i) (cc i)) w k b o d' os hlt hc
    exact ⟨c', h1, by omega⟩
  · exact sw_cell (fun i : Fin K => Value.slice (some ⟨cb i, co i, none⟩) (ln i) (cc i)) w k b o d d' os hH (by omega) hlt i (by omega)

end Go.Proofs.Qxb6600486a

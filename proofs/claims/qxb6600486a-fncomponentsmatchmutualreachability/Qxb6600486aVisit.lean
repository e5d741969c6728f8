/-
  THE WALK OF components' visit (28).
-/
import Derived.Test.Qxb6600486aTMem
import Derived.Deep.RegionHeld3
set_option linter.unusedVariables false
set_option linter.unusedSimpArgs false
namespace Go.Proofs.Qxb6600486a
open Go.RowKit

def VisQ (w : World) (n pb : Nat) (F : Nat → Nat) (s : TS) (N : TN) (v : Nat) (w' : World) : Prop :=
  ∃ sv' kv', TM w n pb w' (s.visit F v) { N with sv := sv', kv := kv' }

theorem src_pair {w : World} (p q : Nat) : Src Try.prog 2 51 (.slice (some ⟨w.heap.size, 0, none⟩) 1 1) 1 [iv p, iv q] (w.alloc (.cells #[iv p, iv q] 53)) :=
  Src.ofSlice _ Try.underlying51 ⟨w.heap.size, 0, none⟩ 1 1 _ (by simp) (World.news_of_block (cs := #[iv p, iv q]) (t := 53) (fr := (0, 0)) (heap_alloc_new w _)) (by simp [Value.oneCell', iv])

set_option maxRecDepth 100000 in
set_option maxHeartbeats 4000000 in
theorem visit_any (w : World) (n pb fb : Nat) (F : Nat → Nat) (wr : World) (s : TS) (N : TN) (v : Nat) (hM : TM w n pb wr s N) (hg : w.cell? ⟨pb, 0, none⟩ = some (.slice (some ⟨fb, 0, none⟩) (n + 1) (n + 1))) (hF : w.rowIs fb 3 (n + 1) (fun v => iv (F v)))
    (hpb : pb < w.heap.size) (hn : n ≤ 4096) (hv : v < n) (hr : s.rch ≤ 100000) (hS : s.S ≤ 100000) (hD : s.D ≤ 100000) (hFb : F v ≤ 100000) :
    Calls Try.prog 28 #[.int .i64 v, .pointer (some ⟨w.heap.size + 9, 0, none⟩), .pointer (some ⟨w.heap.size + 2, 0, none⟩), .pointer (some ⟨w.heap.size + 4, 0, none⟩), .pointer (some ⟨w.heap.size + 7, 0, none⟩), .pointer (some ⟨w.heap.size + 6, 0, none⟩), .pointer (some ⟨w.heap.size + 8, 0, none⟩), .pointer (some ⟨w.heap.size, 0, none⟩)] wr
      fun e w' => e = .returned (.tuple #[]) ∧ VisQ w n pb F s N v w' := by
  obtain ⟨h, hh⟩ : ∃ h, h = w.heap.size := ⟨_, rfl⟩
  rw [← hh]
  have c9 : wr.cell? ⟨h + 9, 0, none⟩ = some (.int .i64 (s.rch : Int)) := by rw [hh]; exact (hM.rows 9 (by omega)).cell (i := 0) (by simp [szT])
  have f9 : wr.frozen? ⟨h + 9, 0, none⟩ = false := by rw [hh]; exact (hM.rows 9 (by omega)).frozen 0
  have HM : Hid (TM w n pb wr s N) := hM
  have HH : Hid (h = w.heap.size) := hh
  clear hM hh
  have hv' : (v : Int) < (n : Int) := by omega
  have hv0 : (0 : Int) ≤ (v : Int) := by omega
  go_enter Try.func28, Try.ntmps28
  go_wp2_with fail
  obtain ⟨w1, hw1⟩ : ∃ u, u = wr.setCell ⟨h + 9, 0, none⟩ (.int .i64 ((s.rch : Int) + 1)) := ⟨_, rfl⟩
  rw [← hw1]
  have H1 : Hid (TM w n pb w1 { s with rch := s.rch + 1 } N) := by
    rw [hw1, HH.out]
    exact HM.out.setR (s.rch + 1)
  clear c9 f9 hw1 HM
  have c9 : w1.cell? ⟨h + 9, 0, none⟩ = some (.int .i64 ((s.rch : Int) + 1)) := by rw [HH.out]; exact (H1.out.rows 9 (by omega)).cell (i := 0) (by simp [szT])
  have c2 : w1.cell? ⟨h + 2, 0, none⟩ = some (.slice (some ⟨h + 1, 0, none⟩) n n) := by rw [HH.out]; exact (H1.out.rows 2 (by omega)).cell (i := 0) (by simp [szT])
  have c4 : w1.cell? ⟨h + 4, 0, none⟩ = some (.slice (some ⟨h + 3, 0, none⟩) n n) := by rw [HH.out]; exact (H1.out.rows 4 (by omega)).cell (i := 0) (by simp [szT])
  have c1 : w1.cell? ⟨h + 1, v, none⟩ = some (.int .i64 (s.idx v : Int)) := by rw [HH.out]; exact (H1.out.rows 1 (by omega)).cell (i := v) (by simpa [szT] using hv)
  have f1 : w1.frozen? ⟨h + 1, v, none⟩ = false := by rw [HH.out]; exact (H1.out.rows 1 (by omega)).frozen v
  have c3 : w1.cell? ⟨h + 3, v, none⟩ = some (.int .i64 (s.low v : Int)) := by rw [HH.out]; exact (H1.out.rows 3 (by omega)).cell (i := v) (by simpa [szT] using hv)
  have f3 : w1.frozen? ⟨h + 3, v, none⟩ = false := by rw [HH.out]; exact (H1.out.rows 3 (by omega)).frozen v
  go_cut [] (fun wc => TM w n pb wc { s with rch := s.rch + 1, idx := upd s.idx v (s.rch + 1), low := upd s.low v (s.rch + 1) } N)
  case first =>
    go_region
    all_goals
      go_wp2_with fail
      go_meet
      case rel =>
        have h1 := (H1.out.setX v (s.rch + 1)).setL v (s.rch + 1)
        rw [← HH.out] at h1
        exact h1.later (Below.refl _ _).drew
  case rest =>
    have H2 : Hid (TM w n pb wc { s with rch := s.rch + 1, idx := upd s.idx v (s.rch + 1), low := upd s.low v (s.rch + 1) } N) := hcut
    clear hcut c9 c2 c4 c1 f1 c3 f3 H1
    have c7 : wc.cell? ⟨h + 7, 0, none⟩ = some N.sv := by rw [HH.out]; exact (H2.out.rows 7 (by omega)).cell (i := 0) (by simp [szT])
    have hal : (wc.alloc (.cells #[.int .i64 (v : Int)] 3)).heap.size = wc.heap.size + 1 := by simp
    have hb1 : Below wc.heap.size wc (wc.alloc (.cells #[.int .i64 (v : Int)] 3)) := (Below.refl _ _).alloc (Nat.le_refl _) _
    have happ : AppV (wc.alloc (.cells #[.int .i64 (v : Int)] 3)) 3 N.sv s.S (fun i => iv (s.st i)) := H2.out.lists.st.of_block fun b e => hb1.block b (H2.out.lists.hi b (.inl e)).2
    have hrow : Hid (∀ w3, (wc.alloc (.cells #[.int .i64 (v : Int)] 3)).grownBy w3 N.sv.ownBlock → w3.cell? ⟨h + 7, 0, none⟩ = some N.sv ∧ w3.frozen? ⟨h + 7, 0, none⟩ = false) := fun w3 hg => by
      rw [HH.out]
      have hlt := H2.out.rows.lt
      have hb : w3.heap[w.heap.size + 7]? = wc.heap[w.heap.size + 7]? := by
        rw [hg.block _ (by rw [hal]; omega) (fun e => by have := (H2.out.lists.hi _ (.inl e.symm)).1; omega)]
        exact hb1.block _ (by omega)
      have hr := (H2.out.rows 7 (by omega)).of_block hb
      exact ⟨hr.cell (i := 0) (by simp [szT]), hr.frozen 0⟩
    obtain ⟨sv, hsv⟩ : ∃ sv, sv = N.sv := ⟨_, rfl⟩
    rw [← hsv] at c7 happ
    have HSV : Hid (sv = N.sv) := hsv
    clear hsv hal hb1
    go_upto_region 3 with (at_builtin; refine wpList_append_app rfl (.tmp 19) (.tmp 21) 22 rfl 3 (.int .i64 0) 8 Try.underlying22 Try.info3 rfl sv rfl s.S (fun i => iv (s.st i)) happ _ rfl 1 [.int .i64 (v : Int)] (src_one v) (by omega) (by omega) (by omega) ?_; intro b2 o2 cp2 w4 hA1 hown1 hg1 hlt1; have x1 := (hrow.out w4 (HSV.out ▸ hg1)).1; have x2 := (hrow.out w4 (HSV.out ▸ hg1)).2)
    obtain ⟨w5, hw5⟩ : ∃ u, u = w4.setCell ⟨h + 7, 0, none⟩ (.slice (some ⟨b2, o2, none⟩) (s.S + 1) cp2) := ⟨_, rfl⟩
    rw [← hw5]
    obtain ⟨sv2, hsv2⟩ : ∃ u, u = Value.slice (some ⟨b2, o2, none⟩) (s.S + 1) cp2 := ⟨_, rfl⟩
    have H3 : Hid (TM w n pb w5 { s with rch := s.rch + 1, idx := upd s.idx v (s.rch + 1), low := upd s.low v (s.rch + 1), S := s.S + 1, st := upd s.st s.S v } { N with sv := sv2 }) := by
      have e := HSV.out
      rw [e] at hown1 hg1
      have := tl_pushS H2.out ((Below.refl _ _).alloc (Nat.le_refl _) _) (v := v) hA1 hown1 hg1 _ rfl
      rw [hw5, HH.out, hsv2]
      exact this
    clear x1 x2 hw5 hA1 hown1 hg1 hlt1 happ hrow c7 H2
    have c6 : w5.cell? ⟨h + 6, 0, none⟩ = some (.slice (some ⟨h + 5, 0, none⟩) n n) := by rw [HH.out]; exact (H3.out.rows 6 (by omega)).cell (i := 0) (by simp [szT])
    have c5 : w5.cell? ⟨h + 5, v, none⟩ = some (.bool (s.on v)) := by rw [HH.out]; exact (H3.out.rows 5 (by omega)).cell (i := v) (by simpa [szT] using hv)
    have f5 : w5.frozen? ⟨h + 5, v, none⟩ = false := by rw [HH.out]; exact (H3.out.rows 5 (by omega)).frozen v
    go_wp2_with fail
    obtain ⟨w6, hw6⟩ : ∃ u, u = w5.setCell ⟨h + 5, v, none⟩ (.bool true) := ⟨_, rfl⟩
    rw [← hw6]
    have H4 : Hid (TM w n pb w6 { s with rch := s.rch + 1, idx := upd s.idx v (s.rch + 1), low := upd s.low v (s.rch + 1), S := s.S + 1, st := upd s.st s.S v, on := upd s.on v true } { N with sv := sv2 }) := by
      have := H3.out.setO v true
      rw [hw6, HH.out]
      exact this
    clear c6 c5 f5 hw6 H3
    have c8 : w6.cell? ⟨h + 8, 0, none⟩ = some N.kv := by rw [HH.out]; exact (H4.out.rows 8 (by omega)).cell (i := 0) (by simp [szT])
    have f8 : w6.frozen? ⟨h + 8, 0, none⟩ = false := by rw [HH.out]; exact (H4.out.rows 8 (by omega)).frozen 0
    have c0 : w6.cell? ⟨h, 0, none⟩ = some (.pointer (some ⟨pb, 0, none⟩)) := by rw [HH.out]; exact (H4.out.rows 0 (by omega)).cell (i := 0) (by simp [szT])
    have cg : w6.cell? ⟨pb, 0, none⟩ = some (.slice (some ⟨fb, 0, none⟩) (n + 1) (n + 1)) := (H4.out.bel.cell (p := ⟨pb, 0, none⟩) hpb).trans hg
    have cF : w6.cell? ⟨fb, v, none⟩ = some (.int .i64 (F v : Int)) := (hF.of_block (H4.out.bel.block fb hF.lt)).cell (i := v) (by omega)
    have hv2 : (v : Int) < (n : Int) + 1 := by omega
    obtain ⟨kv, hkv⟩ : ∃ u, u = N.kv := ⟨_, rfl⟩
    rw [← hkv] at c8
    have HKV : Hid (kv = N.kv) := hkv
    have l8 : h + 8 < w6.heap.size := by rw [HH.out]; exact (H4.out.rows 8 (by omega)).lt
    have kne : kv.ownBlock ≠ some (h + 8) := fun e => by rw [hkv] at e; have := (H4.out.lists.hi _ (.inr (.inl e))).1; rw [HH.out] at this; omega
    have bD : Below w6.heap.size w6 (w6.alloc (.cells #[iv v, iv (F v)] 53)).drew := ((Below.refl _ _).alloc (Nat.le_refl _) _).drew
    have HVD : AppPV (w6.alloc (.cells #[iv v, iv (F v)] 53)).drew 53 kv s.D (fr s.cn s.cx) := by
      rw [hkv]
      exact H4.out.lists.ks.of_block fun b e => bD.block b (H4.out.lists.hi b (.inr (.inl e))).2
    have HSD : Src Try.prog 2 51 (.slice (some ⟨w6.heap.size, 0, none⟩) 1 1) 1 [iv v, iv (F v)] (w6.alloc (.cells #[iv v, iv (F v)] 53)).drew :=
      Src.ofSlice _ Try.underlying51 ⟨w6.heap.size, 0, none⟩ 1 1 _ (by simp) (World.news_of_block (cs := #[iv v, iv (F v)]) (t := 53) (fr := (0, 0)) (heap_alloc_new w6 _)) (by simp [Value.oneCell', iv])
    have HXD : Hid ((w6.alloc (.cells #[iv v, iv (F v)] 53)).drew.cell? ⟨h + 8, 0, none⟩ = some kv ∧ (w6.alloc (.cells #[iv v, iv (F v)] 53)).drew.frozen? ⟨h + 8, 0, none⟩ = false ∧ h + 8 < (w6.alloc (.cells #[iv v, iv (F v)] 53)).drew.heap.size) :=
      ⟨cell_keep (bD.block _ l8) c8, (bD.frozen (p := ⟨h + 8, 0, none⟩) l8).trans f8, Nat.lt_of_lt_of_le l8 bD.size⟩
    clear hkv bD
    unfold iv at HVD HSD HXD
    go_region_law (refine step_append_appP (by rfl) (.tmp 26) (.tmp 36) 51 (by rfl) 53 (.agg #[.int .i64 0, .int .i64 0]) 16 Try.underlying51 Try.info53 rfl kv (by rfl) s.D (fr s.cn s.cx) (by exact HVD) _ (by rfl) [.int .i64 (v : Int), .int .i64 (F v : Int)] (by exact HSD) (by omega) (by omega) ?_; intro b3 o3 cp3 w7 hA2 hown2 hg2 hlt2; have y1 := cell_keep (hg2.block _ HXD.out.2.2 (Ne.symm kne)) HXD.out.1; have y2 := (hg2.frozen_far ⟨h + 8, 0, none⟩ HXD.out.2.2 (Ne.symm kne)).trans HXD.out.2.1)
    all_goals
      (try go_wp2_with fail)
      go_end0
      have e := HKV.out
      rw [e] at hown2 hg2
      have := tl_pushK H4.out (((Below.refl _ _).alloc (Nat.le_refl _) _).drew) (v := v) (f := F v) hA2 hown2 hg2 _ rfl
      rw [HH.out]
      exact ⟨rfl, sv2, _, this.setr _⟩

end Go.Proofs.Qxb6600486a

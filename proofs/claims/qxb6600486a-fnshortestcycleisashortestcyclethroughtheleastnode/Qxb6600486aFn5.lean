/-
  THE WALK OF FnShortestCycleIsAShortestCycleThroughTheLeastNode (5).
-/
import Derived.Test.Qxb6600486aParts
import Derived.BigQuiet
set_option linter.unusedVariables false
set_option linter.unusedSimpArgs false
namespace Go.Proofs.Qxb6600486a
open Go.RowKit

/-- The four rows of marks that the function makes. -/
structure MS (w5 : World) (n ib eb qb xb : Nat) (wr : World) (ic sn : Nat → Bool) : Prop where
  ic : wr.rowIs ib 4 n (fun i => .bool (ic i))
  sn : wr.rowIs eb 4 n (fun i => .bool (sn i))
  cu : ∃ cu : Nat → Bool, wr.rowIs qb 4 n (fun i => .bool (cu i))
  nx : ∃ nx : Nat → Bool, wr.rowIs xb 4 n (fun i => .bool (nx i))
  bel : Below w5.heap.size w5 wr
  o1 : w5.heap.size ≤ ib
  o2 : ib < eb
  o3 : eb < qb
  o4 : qb < xb

theorem MS.setI {w5 : World} {n ib eb qb xb : Nat} {wr : World} {ic sn : Nat → Bool} (h : MS w5 n ib eb qb xb wr ic sn) (v : Nat) (b : Bool) : MS w5 n ib eb qb xb (wr.setCell ⟨ib, v, none⟩ (.bool b)) (upd ic v b) sn := by
  have o1 := h.o1; have o2 := h.o2; have o3 := h.o3; have o4 := h.o4
  exact
    { h with
      ic := (h.ic.set v (.bool b)).congr fun i hi => by
        show (if i = v then Value.bool b else Value.bool (ic i)) = Value.bool (upd ic v b i)
        unfold upd
        split <;> rfl
      sn := h.sn.setOther (by simp; omega) _
      cu := by obtain ⟨cu, hc⟩ := h.cu; exact ⟨cu, hc.setOther (by simp; omega) _⟩
      nx := by obtain ⟨nx, hc⟩ := h.nx; exact ⟨nx, hc.setOther (by simp; omega) _⟩
      bel := h.bel.setCell (p := ⟨ib, v, none⟩) o1 _ }

theorem MS.setS {w5 : World} {n ib eb qb xb : Nat} {wr : World} {ic sn : Nat → Bool} (h : MS w5 n ib eb qb xb wr ic sn) (v : Nat) (b : Bool) : MS w5 n ib eb qb xb (wr.setCell ⟨eb, v, none⟩ (.bool b)) ic (upd sn v b) := by
  have o1 := h.o1; have o2 := h.o2; have o3 := h.o3; have o4 := h.o4
  exact
    { h with
      ic := h.ic.setOther (by simp; omega) _
      sn := (h.sn.set v (.bool b)).congr fun i hi => by
        show (if i = v then Value.bool b else Value.bool (sn i)) = Value.bool (upd sn v b i)
        unfold upd
        split <;> rfl
      cu := by obtain ⟨cu, hc⟩ := h.cu; exact ⟨cu, hc.setOther (by simp; omega) _⟩
      nx := by obtain ⟨nx, hc⟩ := h.nx; exact ⟨nx, hc.setOther (by simp; omega) _⟩
      bel := h.bel.setCell (p := ⟨eb, v, none⟩) (by show w5.heap.size ≤ eb; omega) _ }

theorem MS.below {w5 : World} {n ib eb qb xb : Nat} {wr wr' : World} {ic sn : Nat → Bool} (h : MS w5 n ib eb qb xb wr ic sn) (hb : Below wr.heap.size wr wr') : MS w5 n ib eb qb xb wr' ic sn :=
  { h with
    ic := h.ic.of_block (hb.block _ h.ic.lt)
    sn := h.sn.of_block (hb.block _ h.sn.lt)
    cu := by obtain ⟨cu, hc⟩ := h.cu; exact ⟨cu, hc.of_block (hb.block _ hc.lt)⟩
    nx := by obtain ⟨nx, hc⟩ := h.nx; exact ⟨nx, hc.of_block (hb.block _ hc.lt)⟩
    bel := h.bel.trans (hb.mono h.bel.size) }

theorem MS.walk {w5 : World} {n ib eb qb xb : Nat} {wr wr' : World} {ic sn cu nx : Nat → Bool} (h : MS w5 n ib eb qb xb wr ic sn) (hw : WS wr w5.heap.size n qb xb wr' cu nx) : MS w5 n ib eb qb xb wr' ic sn := by
  have o1 := h.o1; have o2 := h.o2; have o3 := h.o3; have o4 := h.o4
  exact
    { h with
      ic := h.ic.of_block (hw.oth _ (by omega) (by omega))
      sn := h.sn.of_block (hw.oth _ (by omega) (by omega))
      cu := ⟨cu, hw.cur⟩, nx := ⟨nx, hw.nxt⟩
      bel := h.bel.trans hw.bel }

theorem ms_start (w5 : World) (n : Nat) : ∃ w6 w7 w8 w9, w6 = w5.alloc (.cells (madeCells #[.bool false] n) 4) ∧ w7 = w6.alloc (.cells (madeCells #[.bool false] n) 4) ∧ w8 = w7.alloc (.cells (madeCells #[.bool false] n) 4) ∧ w9 = w8.alloc (.cells (madeCells #[.bool false] n) 4) ∧
    MS w5 n w5.heap.size w6.heap.size w7.heap.size w8.heap.size w9 (fun _ => false) (fun _ => false) := by
  refine ⟨_, _, _, _, rfl, rfl, rfl, rfl, ?_⟩
  obtain ⟨O, hO⟩ : ∃ O, O = Obj.cells (madeCells #[.bool false] n) 4 := ⟨_, rfl⟩
  have r : ∀ u : World, (u.alloc (.cells (madeCells #[.bool false] n) 4)).rowIs u.heap.size 4 n (fun _ => .bool false) := fun u => World.rowIs_made u (.bool false) n 4
  have b : ∀ u : World, Below u.heap.size u (u.alloc (.cells (madeCells #[.bool false] n) 4)) := fun u => (Below.refl _ _).alloc (Nat.le_refl _) _
  have z : ∀ u : World, (u.alloc (.cells (madeCells #[.bool false] n) 4)).heap.size = u.heap.size + 1 := fun u => by simp
  have e1 := ((r w5).of_block ((b _).block _ (r w5).lt))
  have e2 := (e1.of_block ((b _).block _ e1.lt))
  have e3 := (e2.of_block ((b _).block _ e2.lt))
  have f1 := ((r (w5.alloc (.cells (madeCells #[.bool false] n) 4))).of_block ((b _).block _ (r (w5.alloc (.cells (madeCells #[.bool false] n) 4))).lt))
  have f2 := (f1.of_block ((b _).block _ f1.lt))
  have g1 := ((r ((w5.alloc (.cells (madeCells #[.bool false] n) 4)).alloc (.cells (madeCells #[.bool false] n) 4))).of_block ((b _).block _ (r ((w5.alloc (.cells (madeCells #[.bool false] n) 4)).alloc (.cells (madeCells #[.bool false] n) 4))).lt))
  exact { ic := e3, sn := f2, cu := ⟨_, g1⟩, nx := ⟨_, r _⟩, bel := (((b w5).alloc (by rw [z]; omega) _).alloc (by rw [z, z]; omega) _).alloc (by rw [z, z, z]; omega) _, o1 := Nat.le_refl _, o2 := by simp only [z]; omega, o3 := by simp only [z]; omega, o4 := by simp only [z]; omega }

set_option maxRecDepth 100000 in
set_option maxHeartbeats 4000000 in
theorem fn5 (n : Int) (w : World) (B : Nat) (a : Option Addr) (l c : Nat) (E : Nat → Int) (hE : Ints w B a l E) (hB : B ≤ w.heap.size) :
    Calls Try.prog 5 #[.int .i64 n, .slice a l c] w fun e w' => e = .returned (.bool true) ∧ Below w.heap.size w w' := by
  have HE : Hid (Ints w B a l E) := hE
  clear hE
  go_enter Try.func5, Try.ntmps5
  go_wp2_with fail
  refine (bytes15 w _ a l c).mono ?_
  rintro e w1 ⟨b1, rfl, m1, hw1⟩
  have H1 : Hid (Below w.heap.size w w1) := by rw [hw1]; exact below_drewN (Below.refl _ _) _
  clear hw1
  cases b1
  case false =>
    go_wp2_with fail
    go_ret
    exact ⟨rfl, H1.out⟩
  by_cases h1 : (8192 : Int) < (l : Int)
  · go_wp2_with fail
    go_ret
    exact ⟨rfl, H1.out⟩
  by_cases h2 : n < 0
  · go_wp2_with fail
    go_ret
    exact ⟨rfl, H1.out⟩
  by_cases h3 : (4096 : Int) < n
  · go_wp2_with fail
    go_ret
    exact ⟨rfl, H1.out⟩
  obtain ⟨k, rfl⟩ : ∃ k : Nat, n = k := ⟨n.toNat, by omega⟩
  have hk : k ≤ 4096 := by omega
  have hl : l ≤ 8192 := by omega
  go_wp2_with fail
  refine (ends_any w1 B k a l c E (HE.out.below H1.out hB) hl).mono ?_
  rintro e w2 ⟨b2, rfl, hend, m2, hw2⟩
  have H2 : Hid (Below w.heap.size w w2) := by rw [hw2]; exact below_drewN H1.out _
  clear hw2 H1
  cases b2
  case false =>
    clear hend
    go_wp2_with fail
    go_ret
    exact ⟨rfl, H2.out⟩
  obtain ⟨m, hm⟩ : ∃ m, m = l / 2 := ⟨_, rfl⟩
  have hm2 : m ≤ 4096 := by omega
  have hsx : ∀ i, i < m → E (2 * i) = ((E (2 * i)).toNat : Nat) ∧ (E (2 * i)).toNat < k := fun i hi => by have := hend rfl i (by omega); omega
  have hsy : ∀ i, i < m → E (2 * i + 1) = ((E (2 * i + 1)).toNat : Nat) ∧ (E (2 * i + 1)).toNat < k := fun i hi => by have := hend rfl i (by omega); omega
  obtain ⟨sx, hsxe⟩ : ∃ sx : Nat → Nat, sx = fun i => (E (2 * i)).toNat := ⟨_, rfl⟩
  obtain ⟨sy, hsye⟩ : ∃ sy : Nat → Nat, sy = fun i => (E (2 * i + 1)).toNat := ⟨_, rfl⟩
  have hsx' : ∀ i, i < m → E (2 * i) = sx i ∧ sx i < k := by rw [hsxe]; exact hsx
  have hsy' : ∀ i, i < m → E (2 * i + 1) = sy i ∧ sy i < k := by rw [hsye]; exact hsy
  have call1 := csr_false w2 B k m l c a sx sy E (HE.out.below H2.out hB) (Nat.le_trans hB H2.out.size) hl hm hk hsx' hsy'
  have HX : Hid ((∀ i, i < m → E (2 * i) = sx i ∧ sx i < k) ∧ (∀ i, i < m → E (2 * i + 1) = sy i ∧ sy i < k) ∧ m = l / 2) := ⟨hsx', hsy', hm⟩
  clear hsx hsy hsx' hsy' hsxe hsye hend hm
  go_wp2_with fail
  refine call1.mono ?_
  clear call1
  rintro e w3 ⟨fb, gb, F, G, rfl, hR, hC, hb3⟩
  have H3 : Hid (Below w.heap.size w w3 ∧ Rows w3 fb gb k m F G ∧ CSR k m (Adj m sx sy) F G) := ⟨H2.out.trans (hb3.mono H2.out.size), hR, hC⟩
  clear hR hC hb3 H2
  have call2 := csr_true w3 B k m l c a sx sy E (HE.out.below H3.out.1 hB) (Nat.le_trans hB H3.out.1.size) hl HX.out.2.2 hk HX.out.1 HX.out.2.1
  go_wp2_with fail
  refine call2.mono ?_
  clear call2
  rintro e w4 ⟨fb', gb', F', G', rfl, hR, hC, hb4⟩
  have hA : ∀ u x, u < k → Adj m sx sy u x → x < k := fun u x _ ⟨i, hi, _, h2⟩ => by rw [← h2]; exact (HX.out.2.1 i hi).2
  have hA' : ∀ u x, u < k → Adj m sy sx u x → x < k := fun u x _ ⟨i, hi, _, h2⟩ => by rw [← h2]; exact (HX.out.1 i hi).2
  have call3 := classes_any w4 fb gb fb' gb' k m (Adj m sx sy) (Adj m sy sx) F G F' G' (H3.out.2.1.below hb4) H3.out.2.2 hR hC hA hA' (fun u x => ⟨reach_rev, reach_rev⟩) hk hm2
  have H4 : Hid (Below w.heap.size w w4 ∧ Rows w4 fb gb k m F G ∧ CSR k m (Adj m sx sy) F G ∧ ∀ u x, u < k → Adj m sx sy u x → x < k) := ⟨H3.out.1.trans (hb4.mono H3.out.1.size), H3.out.2.1.below hb4, H3.out.2.2, hA⟩
  clear hR hC hb4 H3 hA hA' HX HE
  obtain ⟨A, hAA⟩ : ∃ A, A = Adj m sx sy := ⟨_, rfl⟩
  rw [← hAA] at call3 H4
  clear hAA
  go_wp2_with fail
  refine call3.mono ?_
  clear call3
  rintro e w5 ⟨ov, K, cb, co, cc, ln, C, rfl, hout, hcls, hob, hCl, hb5⟩
  have hov : ∃ oa oc, ov = .slice oa K oc ∧ (0 < K → ∃ ob oo, oa = some ⟨ob, oo, none⟩ ∧ ob < w5.heap.size ∧ Seg w5 ob oo K (fun c => .slice (some ⟨cb c, co c, none⟩) (ln c) (cc c))) := by
    rcases hout with ⟨h1, h2⟩ | ⟨b, o, cap, h1, h2⟩
    · exact ⟨none, 0, by rw [h1, h2], fun h => by omega⟩
    · exact ⟨_, _, h1, fun _ => ⟨b, o, rfl, h2.lt, h2.seg⟩⟩
  obtain ⟨oa, oc, rfl, hoa⟩ := hov
  have H5 : Hid (Below w.heap.size w w5 ∧ Rows w5 fb gb k m F G ∧ CSR k m A F G ∧ (∀ u x, u < k → A u x → x < k) ∧ Cls A k k K ln C ∧ (∀ c, c < K → Seg w5 (cb c) (co c) (ln c) (fun i => iv (C c i)) ∧ cb c < w5.heap.size)) :=
    ⟨H4.out.1.trans (hb5.mono H4.out.1.size), H4.out.2.1.below hb5, H4.out.2.2.1, H4.out.2.2.2, hCl, fun c hc => ⟨(hcls c hc).1, (hcls c hc).2.2⟩⟩
  have HO : Hid (0 < K → ∃ ob oo, oa = some ⟨ob, oo, none⟩ ∧ ob < w5.heap.size ∧ Seg w5 ob oo K (fun c => .slice (some ⟨cb c, co c, none⟩) (ln c) (cc c))) := hoa
  have hK : K ≤ 4096 := by have := hCl.few; omega
  clear hout hcls hob hCl hb5 hoa H4
  obtain ⟨w6, w7, w8, w9, e6, e7, e8, e9, hms⟩ := ms_start w5 k
  have mk6 := run_make_bools k (by omega) w5
  have mk7 := run_make_bools k (by omega) w6
  have mk8 := run_make_bools k (by omega) w7
  have mk9 := run_make_bools k (by omega) w8
  rw [← e6] at mk6
  rw [← e7] at mk7
  rw [← e8] at mk8
  rw [← e9] at mk9
  have HMS : Hid (MS w5 k w5.heap.size w6.heap.size w7.heap.size w8.heap.size w9 (fun _ => false) (fun _ => false)) := hms
  clear hms e6 e7 e8 e9
  go_wp2_with fail
  clear mk6 mk7 mk8 mk9
  obtain ⟨ib, hib⟩ : ∃ x, x = w5.heap.size := ⟨_, rfl⟩
  obtain ⟨eb, heb⟩ : ∃ x, x = w6.heap.size := ⟨_, rfl⟩
  obtain ⟨qb, hqb⟩ : ∃ x, x = w7.heap.size := ⟨_, rfl⟩
  obtain ⟨xb, hxb⟩ : ∃ x, x = w8.heap.size := ⟨_, rfl⟩
  rw [← heb, ← hqb, ← hxb] at HMS
  rw [← hib, ← heb, ← hqb, ← hxb]
  have HMS2 : Hid (MS w5 k ib eb qb xb w9 (fun _ => false) (fun _ => false)) := by rw [hib]; exact HMS.out
  have HIB : Hid (ib = w5.heap.size) := hib
  clear hib heb hqb hxb HMS
  go_loopg [14] K (fun gk t wr => ∃ ci : Nat, ci + gk = K ∧ t = .int .i64 ci ∧ ∃ ic sn, MS w5 k ib eb qb xb wr ic sn ∧ (∀ x, x < k → ic x = false) ∧ ∀ x, x < k → sn x = false)
  case atStart => exact ⟨0, by omega, rfl, _, _, HMS2.out, fun _ _ => rfl, fun _ _ => rfl⟩
  case round =>
    clear HMS2
    obtain ⟨ci, hci, rfl, ic, sn, hms, hic, hsn⟩ := hrel
    by_cases hlt : ci < K
    · have hlt' : (ci : Int) < (K : Int) := by omega
      obtain ⟨ob, oo, rfl, hobl, hseg⟩ := HO.out (by omega)
      have c1 : wr.cell? ⟨ob, oo + ci, none⟩ = some (.slice (some ⟨cb ci, co ci, none⟩) (ln ci) (cc ci)) := (seg_below hseg hobl hms.bel) ci hlt
      have hlst := H5.out.2.2.2.2.1.lst ci hlt
      have hbig := H5.out.2.2.2.2.1.big ci hlt
      have hcs := H5.out.2.2.2.2.2 ci hlt
      obtain ⟨f, hf⟩ : ∃ f, f = C ci := ⟨_, rfl⟩
      obtain ⟨len, hlen⟩ : ∃ len, len = ln ci := ⟨_, rfl⟩
      obtain ⟨kb, hkb⟩ : ∃ kb, kb = cb ci := ⟨_, rfl⟩
      obtain ⟨ko, hko⟩ : ∃ ko, ko = co ci := ⟨_, rfl⟩
      obtain ⟨kc, hkc⟩ : ∃ kc, kc = cc ci := ⟨_, rfl⟩
      rw [← hf, ← hlen] at hlst
      rw [← hlen] at hbig
      rw [← hkb, ← hko, ← hlen, ← hf] at hcs
      rw [← hkb, ← hko, ← hlen, ← hkc] at c1
      have hle := hlst.le
      have hlast : ∀ wx, Below w5.heap.size w5 wx → Seg wx kb ko len (fun i => iv (f i)) := fun wx hb => seg_below hcs.1 hcs.2 hb
      have HSG := (show Hid ((∀ wx, Below w5.heap.size w5 wx → Seg wx kb ko len (fun i => iv (f i))) ∧ kb < w5.heap.size) from ⟨hlast, hcs.2⟩)
      have HL : Hid (Lst A (f 0) k len f) := hlst
      have H0 : Hid (MS w5 k ib eb qb xb wr ic sn ∧ (∀ x, x < k → (ic x = true ↔ ∃ j, j < 0 ∧ f j = x)) ∧ ∀ x, x < k → sn x = false) := ⟨hms, fun x hx => by rw [hic x hx]; simp, hsn⟩
      clear hms hic hsn hseg hlst hcs hf hlen hkb hko hkc hlast
      obtain ⟨Gk, hG⟩ : ∃ g, g = gk := ⟨_, rfl⟩
      subst hG
      go_wp2_with fail
      clear c1
      go_loopg [16] len (fun gk t wr => ∃ i : Nat, i + gk = len ∧ t = .int .i64 i ∧ ∃ ic sn, MS w5 k ib eb qb xb wr ic sn ∧ (∀ x, x < k → (ic x = true ↔ ∃ j, j < i ∧ f j = x)) ∧ ∀ x, x < k → sn x = false)
      case atStart => exact ⟨0, by omega, rfl, ic, sn, H0.out⟩
      case round =>
        clear H0
        obtain ⟨i, hi, rfl, ic, sn, hms, hic, hsn⟩ := hrel
        by_cases hlt2 : i < len
        · have hlt2' : (i : Int) < (len : Int) := by omega
          have c1 : wr.cell? ⟨kb, ko + i, none⟩ = some (.int .i64 (f i)) := HSG.out.1 wr hms.bel i hlt2
          have hfn := (HL.out.mem i hlt2).1
          have hfn' : (f i : Int) < (k : Int) := by omega
          have c2 := hms.ic.cell hfn
          have c3 := hms.ic.frozen (f i)
          have HX : Hid (MS w5 k ib eb qb xb wr ic sn ∧ (∀ x, x < k → (ic x = true ↔ ∃ j, j < i ∧ f j = x)) ∧ ∀ x, x < k → sn x = false) := ⟨hms, hic, hsn⟩
          clear hms hic hsn
          go_wp2_with fail
          go_roundg (gk - 1)
          case measure => omega
          case rel => exact ⟨i + 1, by omega, by go_num, _, sn, HX.out.1.setI (f i) true, fun x hx => by
              by_cases e : x = f i
              · rw [e, upd_same]
                exact ⟨fun _ => ⟨i, by omega, rfl⟩, fun _ => rfl⟩
              · rw [upd_ne e, HX.out.2.1 x hx]
                constructor
                · rintro ⟨j, h1, h2⟩; exact ⟨j, by omega, h2⟩
                · rintro ⟨j, h1, h2⟩
                  by_cases ej : j = i
                  · rw [ej] at h2; exact absurd h2.symm e
                  · exact ⟨j, by omega, h2⟩, HX.out.2.2⟩
        · have hlt2' : ¬ (i : Int) < (len : Int) := by omega
          have e : i = len := by omega
          subst e
          obtain ⟨wA, hwA⟩ : ∃ u, u = wr := ⟨_, rfl⟩
          subst hwA
          have c1 : wA.cell? ⟨kb, ko, none⟩ = some (.int .i64 (f 0)) := by have := HSG.out.1 wA hms.bel 0 (by omega); rwa [Nat.add_zero] at this
          have hsn0 := (HL.out.mem 0 (by omega)).1
          obtain ⟨cu, hcu⟩ := hms.cu
          obtain ⟨nx, hnx⟩ := hms.nx
          have hRw := H5.out.2.1.below hms.bel
          have q1 := hms.o1
          have q2 := hms.o2
          have q3 := hms.o3
          have q4 := hms.o4
          have hfl := H5.out.2.1.f.lt
          have hgl := H5.out.2.1.g.lt
          have call1 := closedWalk_any wA w5.heap.size fb gb k m ib qb xb (f 0) i A F G ic cu nx hRw H5.out.2.2.1 H5.out.2.2.2.1 hk hm2 hsn0 (by omega) hms.ic hcu hnx (by omega) (by omega) (by omega) (by omega) (by omega) (by omega) (by omega) (by omega) (by omega)
          have HX : Hid (MS w5 k ib eb qb xb wA ic sn ∧ (∀ x, x < k → (ic x = true ↔ Mem i f x)) ∧ ∀ x, x < k → sn x = false) := ⟨hms, hic, hsn⟩
          have hi0 : (0 : Int) < (i : Int) := by omega
          clear hms hic hsn hcu hnx hRw hfl hgl
          go_wp2_with fail
          refine call1.mono ?_
          clear call1
          rintro e wB ⟨r, rfl, hwr, cu2, nx2, hws⟩
          have hmsB := HX.out.1.walk hws
          have hcyc := class_cycle H5.out.2.2.2.1 hsn0 HL.out hbig rfl
          have call2 := zzcycle_any wB fb gb k m kb ko i kc A F G f (H5.out.2.1.below hmsB.bel) H5.out.2.2.1 H5.out.2.2.2.1 hk hm2 (HSG.out.1 wB hmsB.bel) (Nat.lt_of_lt_of_le HSG.out.2 hmsB.bel.size) HL.out.inc (fun j hj => (HL.out.mem j hj).1) (by omega) (by omega) hcyc
          have HB : Hid (MS w5 k ib eb qb xb wB ic sn ∧ WalkR A ic (f 0) i r) := ⟨hmsB, hwr⟩
          clear hws hwr hcyc hmsB
          go_wp2_with fail
          refine call2.mono ?_
          clear call2
          rintro e wC ⟨yb, yo, ycap, l, y, rfl, hcy, hys, hyb, hybl, hlk, hbC⟩
          have hmsC := HB.out.1.below hbC
          have hmem0 : Mem i f (f 0) := ⟨0, by omega, rfl⟩
          have hrl := walk_eq H5.out.2.2.2.1 hsn0 HX.out.2.1 (fun j hj => (HL.out.mem j hj).1) hcy hmem0 HB.out.2
          subst hrl
          have hl1 := hcy.l1
          have hybx : xb < yb := by obtain ⟨nx, hnx⟩ := HB.out.1.nx; have := hnx.lt; omega
          have d1 : wC.cell? ⟨yb, yo, none⟩ = some (.int .i64 (f 0)) := by have := hys 0 (by omega); rw [Nat.add_zero] at this; rw [this]; show some (iv (y 0)) = _; rw [hcy.y0]; rfl
          have d2 : wC.cell? ⟨kb, ko, none⟩ = some (.int .i64 (f 0)) := by have := HSG.out.1 wC hmsC.bel 0 (by omega); rwa [Nat.add_zero] at this
          have HC : Hid (MS w5 k ib eb qb xb wC ic sn ∧ Cyc A (Mem i f) (f 0) r y ∧ Seg wC yb yo r (fun j => iv (y j))) := ⟨hmsC, hcy, hys⟩
          have hr0 : (0 : Int) < (r : Int) := by omega
          have dr : ((r : Int) == 0) = false := by rw [beq_eq_false_iff_ne]; omega
          have dr2 : ((r : Int) != (r : Int)) = false := by simp
          have df : ((f 0 : Int) != (f 0 : Int)) = false := by simp
          clear hcy hys hyb hbC HB hmsC c1
          go_wp2_with fail
          go_quiet (fail)
          obtain ⟨wD, hwD⟩ : ∃ u, u = wC.drewN nq := ⟨_, rfl⟩
          rw [← hwD]
          have HD : Hid (MS w5 k ib eb qb xb wD ic sn ∧ Seg wD yb yo r (fun j => iv (y j)) ∧ Cyc A (Mem i f) (f 0) r y ∧ yb < wD.heap.size) := by
            refine ⟨?_, ?_, HC.out.2.1, ?_⟩
            · rw [hwD]; exact HC.out.1.below (below_drewN (Below.refl _ _) _)
            · rw [hwD]; exact HC.out.2.2.of_block (by rw [World.heap_drewN])
            · rw [hwD, World.heap_drewN]; exact hybl
          have hyin : ∀ j, j < r → Mem i f (y j) := fun j hj => by
            rcases Nat.eq_zero_or_pos j with h0 | h0
            · rw [h0, HC.out.2.1.y0]; exact hmem0
            · exact HC.out.2.1.inP j h0 hj
          have hyn : ∀ j, j < r → y j < k := fun j hj => by
            obtain ⟨x, hx, e⟩ := hyin j hj
            rw [← e]; exact (HL.out.mem x hx).1
          have HY : Hid ((∀ j, j < r → Mem i f (y j)) ∧ ∀ j, j < r → y j < k) := ⟨hyin, hyn⟩
          clear hwD HC d1 d2 hyin hyn hybl
          go_wp2_with fail
          go_loopg [20] r (fun gk t wr => ∃ x : Nat, x + gk = r ∧ t = .int .i64 x ∧ ∃ sn, MS w5 k ib eb qb xb wr ic sn ∧ (∀ z, z < k → (sn z = true ↔ ∃ j, j < x ∧ y j = z)) ∧ wr.heap[yb]? = wD.heap[yb]?)
          case atStart => exact ⟨0, by omega, rfl, sn, HD.out.1, fun z hz => by rw [HX.out.2.2 z hz]; simp, rfl⟩
          case round =>
            obtain ⟨x, hx, rfl, sn2, hms, hsn2, hyb2⟩ := hrel
            by_cases hxl : x < r
            · have hxl' : (x : Int) < (r : Int) := by omega
              have c1 : wr.cell? ⟨yb, yo + x, none⟩ = some (.int .i64 (y x)) := (HD.out.2.1.of_block hyb2) x hxl
              have hyk := HY.out.2 x hxl
              have hyk' : (y x : Int) < (k : Int) := by omega
              have c2 := hms.ic.cell hyk
              rw [(HX.out.2.1 (y x) hyk).2 (HY.out.1 x hxl)] at c2
              have hsf : sn2 (y x) = false := by
                cases e : sn2 (y x) with
                | false => rfl
                | true =>
                  obtain ⟨j, h1, h2⟩ := (hsn2 _ hyk).1 e
                  exact absurd h2 (HD.out.2.2.1.inj j x h1 hxl)
              have c3 := hms.sn.cell hyk
              rw [hsf] at c3
              have c4 := hms.sn.frozen (y x)
              have e1 : decide ((y x : Int) < 0) = false := by simp
              have e2 : decide ((k : Int) ≤ (y x : Int)) = false := by simp; omega
              have e3 : decide (k ≤ y x) = false := by simp; omega
              have HZ : Hid (MS w5 k ib eb qb xb wr ic sn2 ∧ (∀ z, z < k → (sn2 z = true ↔ ∃ j, j < x ∧ y j = z)) ∧ wr.heap[yb]? = wD.heap[yb]?) := ⟨hms, hsn2, hyb2⟩
              have hye : yb ≠ eb := by omega
              clear hms hsn2 hyb2 hsf
              go_wp2_with fail
              go_roundg (gk - 1)
              case measure => omega
              case rel => exact ⟨x + 1, by omega, by go_num, _, HZ.out.1.setS (y x) true, fun z hz => by
                  by_cases e : z = y x
                  · rw [e, upd_same]
                    exact ⟨fun _ => ⟨x, by omega, rfl⟩, fun _ => rfl⟩
                  · rw [upd_ne e, HZ.out.2.1 z hz]
                    constructor
                    · rintro ⟨j, h1, h2⟩; exact ⟨j, by omega, h2⟩
                    · rintro ⟨j, h1, h2⟩
                      by_cases ej : j = x
                      · rw [ej] at h2; exact absurd h2.symm e
                      · exact ⟨j, by omega, h2⟩, by rw [heap_setCell_other _ _ _ _ (by simpa using hye)]; exact HZ.out.2.2⟩
            · have hxl' : ¬ (x : Int) < (r : Int) := by omega
              have ex : x = r := by omega
              subst ex
              have HE2 : Hid (MS w5 k ib eb qb xb wr ic sn2 ∧ (∀ z, z < k → (sn2 z = true ↔ ∃ j, j < x ∧ y j = z)) ∧ wr.heap[yb]? = wD.heap[yb]?) := ⟨hms, hsn2, hyb2⟩
              clear hms hsn2 hyb2
              obtain ⟨wE, hwE⟩ : ∃ u, u = wr := ⟨_, rfl⟩
              subst hwE
              go_wp2_with fail
              go_loopg [22] x (fun gk t wr => ∃ z : Nat, z + gk = x ∧ t = .int .i64 z ∧ ∃ q, wr = wE.drewN q)
              case atStart => exact ⟨0, by omega, rfl, 0, rfl⟩
              case round =>
                obtain ⟨z, hz, rfl, q, rfl⟩ := hrel
                by_cases hzl : z < x
                · have hzl' : (z : Int) < (x : Int) := by omega
                  have hsg := HD.out.2.1.of_block HE2.out.2.2
                  obtain ⟨z2, hz2⟩ : ∃ z2, z2 = if z + 1 < x then z + 1 else 0 := ⟨_, rfl⟩
                  have hz2x : z2 < x := by rw [hz2]; split <;> omega
                  have hz2x' : (z2 : Int) < (x : Int) := by omega
                  have hrem : ((z : Int) + 1).tmod (x : Int) = (z2 : Int) := by
                    by_cases e : z + 1 < x
                    · rw [hz2, if_pos e]
                      have : ((z : Int) + 1).tmod (x : Int) = (((z + 1) % x : Nat) : Int) := rfl
                      rw [this, Nat.mod_eq_of_lt e]
                    · rw [hz2, if_neg e]
                      have ez : z + 1 = x := by omega
                      have : ((z : Int) + 1).tmod (x : Int) = (((z + 1) % x : Nat) : Int) := rfl
                      rw [this, ez, Nat.mod_self]
                  have c1 : wE.cell? ⟨yb, yo + z, none⟩ = some (.int .i64 (y z)) := hsg z hzl
                  have c2 : wE.cell? ⟨yb, yo + z2, none⟩ = some (.int .i64 (y z2)) := hsg z2 hz2x
                  have hadj : A (y z) (y z2) := by
                    by_cases e : z + 1 < x
                    · rw [hz2, if_pos e]; exact HD.out.2.2.1.ed z e
                    · rw [hz2, if_neg e, HD.out.2.2.1.y0]
                      have := HD.out.2.2.1.cl
                      rwa [show x - 1 = z from by omega] at this
                  have hcallE : Hid (∀ wx, Below wE.heap.size wE wx → Calls Try.prog 18 #[.slice (some ⟨fb, 0, none⟩) (k + 1) (k + 1), .slice (some ⟨gb, 0, none⟩) m m, .int .i64 (y z), .int .i64 (y z2)] wx fun e w' => e = .returned (.bool true) ∧ ∃ q, w' = wx.drewN q) := fun wx hb =>
                    hasEdge_any wx fb gb k m (y z) (y z2) A F G (H5.out.2.1.below (HE2.out.1.bel.trans (hb.mono HE2.out.1.bel.size))) H5.out.2.2.1 hk hm2 (HY.out.2 z hzl) hadj
                  have hwz : IntKind.i64.wrap ((z : Int) + 1) = (z : Int) + 1 := by rw [IntKind.wrap_i64]; omega
                  have hdiv : Op.intDiv .rem .i64 ((z : Int) + 1) (x : Int) = pure (.int .i64 (z2 : Int)) := by
                    unfold Op.intDiv
                    rw [if_neg (by omega)]
                    show pure (Value.int .i64 (((z : Int) + 1).tmod (x : Int))) = _
                    rw [hrem]
                  obtain ⟨wF, hwF⟩ : ∃ u, u = wE.drewN q := ⟨_, rfl⟩
                  rw [← hwF]
                  have c1' : wF.cell? ⟨yb, yo + z, none⟩ = some (.int .i64 (y z)) := by rw [hwF]; exact c1
                  have c2' : wF.cell? ⟨yb, yo + z2, none⟩ = some (.int .i64 (y z2)) := by rw [hwF]; exact c2
                  have hcallF : Hid (∀ q2, Calls Try.prog 18 #[.slice (some ⟨fb, 0, none⟩) (k + 1) (k + 1), .slice (some ⟨gb, 0, none⟩) m m, .int .i64 (y z), .int .i64 (y z2)] (wF.drewN q2) fun e w' => e = .returned (.bool true) ∧ ∃ q, w' = (wF.drewN q2).drewN q) := fun q2 =>
                    hcallE.out _ (by rw [hwF]; exact below_drewN (below_drewN (Below.refl _ _) _) _)
                  have HwF : Hid (wF = wE.drewN q) := hwF
                  clear hsg hz2 hadj hwF c1 c2 hcallE
                  go_wp2_with fail
                  go_quiet ((go_at_call 18; exact Calls.quiet_of (hcallF.out _)))
                  go_wp2_with fail
                  go_roundg (gk - 1)
                  case measure => omega
                  case rel => exact ⟨z + 1, by omega, by go_num, q + nq, by rw [HwF.out]; simp⟩
                · have hzl' : ¬ (z : Int) < (x : Int) := by omega
                  obtain ⟨wG, hwG⟩ : ∃ u, u = wE.drewN q := ⟨_, rfl⟩
                  rw [← hwG]
                  have HG2 : Hid (MS w5 k ib eb qb xb wG ic sn2 ∧ (∀ z, z < k → (sn2 z = true ↔ ∃ j, 0 ≤ j ∧ j < x ∧ y j = z)) ∧ wG.heap[yb]? = wD.heap[yb]?) := by
                    refine ⟨?_, fun z hz => ?_, ?_⟩
                    · rw [hwG]; exact HE2.out.1.below (below_drewN (Below.refl _ _) _)
                    · rw [HE2.out.2.1 z hz]
                      exact ⟨fun ⟨j, h1, h2⟩ => ⟨j, by omega, h1, h2⟩, fun ⟨j, _, h1, h2⟩ => ⟨j, h1, h2⟩⟩
                    · rw [hwG, World.heap_drewN]; exact HE2.out.2.2
                  clear hwG
                  go_wp2_with fail
                  go_loopg [23] x (fun gk t wr => ∃ v : Nat, v + gk = x ∧ t = .int .i64 v ∧ ∃ sn, MS w5 k ib eb qb xb wr ic sn ∧ (∀ z, z < k → (sn z = true ↔ ∃ j, v ≤ j ∧ j < x ∧ y j = z)) ∧ wr.heap[yb]? = wD.heap[yb]?)
                  case atStart => exact ⟨0, by omega, rfl, sn2, HG2.out⟩
                  case round =>
                    obtain ⟨v, hv, rfl, sn3, hms, hsn3, hyb3⟩ := hrel
                    by_cases hvl : v < x
                    · have hvl' : (v : Int) < (x : Int) := by omega
                      have c1 : wr.cell? ⟨yb, yo + v, none⟩ = some (.int .i64 (y v)) := (HD.out.2.1.of_block hyb3) v hvl
                      have hyk := HY.out.2 v hvl
                      have hyk' : (y v : Int) < (k : Int) := by omega
                      have c2 := hms.sn.cell hyk
                      have c3 := hms.sn.frozen (y v)
                      have hye : yb ≠ eb := by omega
                      have HZ : Hid (MS w5 k ib eb qb xb wr ic sn3 ∧ (∀ z, z < k → (sn3 z = true ↔ ∃ j, v ≤ j ∧ j < x ∧ y j = z)) ∧ wr.heap[yb]? = wD.heap[yb]?) := ⟨hms, hsn3, hyb3⟩
                      clear hms hsn3 hyb3
                      go_wp2_with fail
                      go_roundg (gk - 1)
                      case measure => omega
                      case rel => exact ⟨v + 1, by omega, by go_num, _, HZ.out.1.setS (y v) false, fun z hz => by
                          by_cases e : z = y v
                          · rw [e, upd_same]
                            constructor
                            · intro h; cases h
                            · rintro ⟨j, h1, h2, h3⟩
                              exact absurd h3.symm (HD.out.2.2.1.inj v j (by omega) h2)
                          · rw [upd_ne e, HZ.out.2.1 z hz]
                            constructor
                            · rintro ⟨j, h1, h2, h3⟩
                              by_cases ej : j = v
                              · rw [ej] at h3; exact absurd h3.symm e
                              · exact ⟨j, by omega, h2, h3⟩
                            · rintro ⟨j, h1, h2⟩; exact ⟨j, by omega, h2⟩, by rw [heap_setCell_other _ _ _ _ (by simpa using hye)]; exact HZ.out.2.2⟩
                    · have hvl' : ¬ (v : Int) < (x : Int) := by omega
                      have HZ : Hid (MS w5 k ib eb qb xb wr ic sn3 ∧ (∀ z, z < k → (ic z = true ↔ ∃ j, 0 ≤ j ∧ j < i ∧ f j = z)) ∧ ∀ z, z < k → sn3 z = false) := by
                        refine ⟨hms, fun z hz => ?_, fun z hz => ?_⟩
                        · rw [HX.out.2.1 z hz]
                          exact ⟨fun ⟨j, h1, h2⟩ => ⟨j, by omega, h1, h2⟩, fun ⟨j, _, h1, h2⟩ => ⟨j, h1, h2⟩⟩
                        · cases e : sn3 z with
                          | false => rfl
                          | true =>
                            obtain ⟨j, h1, h2, _⟩ := (hsn3 z hz).1 e
                            omega
                      clear hms hsn3 hyb3
                      go_wp2_with fail
                      go_loopg [24] i (fun gk t wr => ∃ v : Nat, v + gk = i ∧ t = .int .i64 v ∧ ∃ ic sn, MS w5 k ib eb qb xb wr ic sn ∧ (∀ z, z < k → (ic z = true ↔ ∃ j, v ≤ j ∧ j < i ∧ f j = z)) ∧ ∀ z, z < k → sn z = false)
                      case atStart => exact ⟨0, by omega, rfl, ic, sn3, HZ.out⟩
                      case round =>
                        obtain ⟨v, hv, rfl, ic4, sn4, hms, hic4, hsn4⟩ := hrel
                        by_cases hvl : v < i
                        · have hvl' : (v : Int) < (i : Int) := by omega
                          have c1 : wr.cell? ⟨kb, ko + v, none⟩ = some (.int .i64 (f v)) := HSG.out.1 wr hms.bel v hvl
                          have hfn := (HL.out.mem v hvl).1
                          have hfn' : (f v : Int) < (k : Int) := by omega
                          have c2 := hms.ic.cell hfn
                          have c3 := hms.ic.frozen (f v)
                          have HW : Hid (MS w5 k ib eb qb xb wr ic4 sn4 ∧ (∀ z, z < k → (ic4 z = true ↔ ∃ j, v ≤ j ∧ j < i ∧ f j = z)) ∧ ∀ z, z < k → sn4 z = false) := ⟨hms, hic4, hsn4⟩
                          clear hms hic4 hsn4
                          go_wp2_with fail
                          go_roundg (gk - 1)
                          case measure => omega
                          case rel => exact ⟨v + 1, by omega, by go_num, _, sn4, HW.out.1.setI (f v) false, fun z hz => by
                              by_cases e : z = f v
                              · rw [e, upd_same]
                                constructor
                                · intro h; cases h
                                · rintro ⟨j, h1, h2, h3⟩
                                  have := HL.out.inc v j (by omega) h2
                                  omega
                              · rw [upd_ne e, HW.out.2.1 z hz]
                                constructor
                                · rintro ⟨j, h1, h2, h3⟩
                                  by_cases ej : j = v
                                  · rw [ej] at h3; exact absurd h3.symm e
                                  · exact ⟨j, by omega, h2, h3⟩
                                · rintro ⟨j, h1, h2⟩; exact ⟨j, by omega, h2⟩, HW.out.2.2⟩
                        · have hvl' : ¬ (v : Int) < (i : Int) := by omega
                          have HW : Hid (MS w5 k ib eb qb xb wr ic4 sn4 ∧ (∀ z, z < k → ic4 z = false) ∧ ∀ z, z < k → sn4 z = false) := by
                            refine ⟨hms, fun z hz => ?_, hsn4⟩
                            cases e : ic4 z with
                            | false => rfl
                            | true =>
                              obtain ⟨j, h1, h2, _⟩ := (hic4 z hz).1 e
                              omega
                          clear hms hic4 hsn4
                          go_wp2_with fail
                          go_roundg (Gk - 1)
                          case measure => omega
                          case rel => exact ⟨ci + 1, by omega, by go_num, ic4, sn4, HW.out⟩
    · have hlt' : ¬ (ci : Int) < (K : Int) := by omega
      have HB5 : Hid (Below w.heap.size w wr) := H5.out.1.trans (hms.bel.mono H5.out.1.size)
      clear hms hic hsn
      go_wp2_with fail
      go_ret
      exact ⟨rfl, HB5.out⟩

end Go.Proofs.Qxb6600486a

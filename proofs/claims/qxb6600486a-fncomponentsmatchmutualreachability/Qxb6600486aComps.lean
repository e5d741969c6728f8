/-
  THE WALK OF components (24).
-/
import Derived.Test.Qxb6600486aTStep3
set_option linter.unusedVariables false
set_option linter.unusedSimpArgs false
namespace Go.Proofs.Qxb6600486a
open Go.RowKit

theorem comps_end {w : World} {n m pb : Nat} {A : Nat → Nat → Prop} {F G : Nat → Nat} {wr w' : World} {s : TS} {N : TN} (h : TI w n m pb A F G wr s N) (hD : s.D = 0) (hall : ∀ x, x < n → s.idx x ≠ 0)
    (hq : SFQ wr N.ov N.K N.cb N.co N.cc N.ln N.C w') : ClsQ w n A (.returned N.ov) w' := by
  obtain ⟨p, p1, p2, p3, p4, p5⟩ := hq
  have hdn : ∀ x, x < n → s.dn x := fun x hx => ⟨hall x hx, by
    cases e : s.on x with
    | false => rfl
    | true =>
      obtain ⟨d, hd, _⟩ := h.inv.up x e
      omega⟩
  have hs := p5.size
  refine ⟨N.ov, N.K, fun c => N.cb (p c), fun c => N.co (p c), fun c => N.cc (p c), fun c => N.ln (p c), fun c => N.C (p c), rfl, p4, fun c hc => ?_, fun b hb => ?_, h.tc.cls hdn p p1 p2 p3, h.tm.bel.grown p5 (by have := h.tm.bel.size; omega) (fun k e => ?_)⟩
  · have hi := h.tm.lists.hi _ (.inr (.inr (.inr ⟨p c, p1 c hc, rfl⟩)))
    exact ⟨(h.tm.lists.cls (p c) (p1 c hc)).of_block (p5.block _ hi.2 (fun e => h.tm.lists.d3 _ e.symm (p c) (p1 c hc) rfl)), by show w.heap.size < N.cb (p c); omega, by show N.cb (p c) < w'.heap.size; omega⟩
  · have hi := h.tm.lists.hi b (.inr (.inr (.inl hb)))
    exact ⟨by omega, by omega⟩
  · have hi := h.tm.lists.hi k (.inr (.inr (.inl e)))
    omega

set_option maxRecDepth 100000 in
set_option maxHeartbeats 40000000 in
theorem comps_any (w : World) (pb fb gb n m : Nat) (A : Nat → Nat → Prop) (F G : Nat → Nat) (hR : Rows w fb gb n m F G) (hC : CSR n m A F G) (hA : ∀ u x, u < n → A u x → x < n) (hn : n ≤ 4096) (hm : m ≤ 4096)
    (hg0 : w.cell? ⟨pb, 0, none⟩ = some (.slice (some ⟨fb, 0, none⟩) (n + 1) (n + 1))) (hg1 : w.cell? ⟨pb, 1, none⟩ = some (.slice (some ⟨gb, 0, none⟩) m m)) (hpb : pb < w.heap.size) :
    Calls Try.prog 24 #[.pointer (some ⟨pb, 0, none⟩)] w fun e w' => ClsQ w n A e w' := by
  have mk := run_make_ints n (by omega)
  have mkb := run_make_bools n (by omega)
  obtain ⟨h, hh⟩ : ∃ h, h = w.heap.size := ⟨_, rfl⟩
  have HV : Hid (∀ wr s N v, TM w n pb wr s N → v < n → s.rch ≤ 20000 → s.S ≤ 20000 → s.D ≤ 20000 →
      Calls Try.prog 28 #[.int .i64 v, .pointer (some ⟨h + 9, 0, none⟩), .pointer (some ⟨h + 2, 0, none⟩), .pointer (some ⟨h + 4, 0, none⟩), .pointer (some ⟨h + 7, 0, none⟩), .pointer (some ⟨h + 6, 0, none⟩), .pointer (some ⟨h + 8, 0, none⟩), .pointer (some ⟨h, 0, none⟩)] wr
        fun e w' => e = .returned (.tuple #[]) ∧ VisQ w n pb F s N v w') := fun wr s N v hM hv h1 h2 h3 => by
    rw [hh]
    exact visit_any w n pb fb F wr s N v hM hg0 hR.f hpb hn hv (by omega) (by omega) (by omega) (by have := hC.top v (by omega); omega)
  have HH : Hid (h = w.heap.size) := hh
  have HC : Hid (CSR n m A F G ∧ (∀ u x, u < n → A u x → x < n) ∧ Rows w fb gb n m F G ∧ w.cell? ⟨pb, 0, none⟩ = some (.slice (some ⟨fb, 0, none⟩) (n + 1) (n + 1)) ∧ w.cell? ⟨pb, 1, none⟩ = some (.slice (some ⟨gb, 0, none⟩) m m)) := ⟨hC, hA, hR, hg0, hg1⟩
  clear hR hC hA hg1 hh
  go_enter Try.func24, Try.ntmps24
  go_wp2_with fail
  clear mk mkb hg0
  simp only [Nat.add_assoc, Nat.reduceAdd]
  obtain ⟨w0, hw0⟩ : ∃ u, u = ((((((((((w.alloc (.cells #[.pointer (some ⟨pb, 0, none⟩)] 45)).alloc (.cells (madeCells #[.int .i64 0] n) 3)).alloc (.cells #[.slice (some ⟨w.heap.size + 1, 0, none⟩) n n] 22)).alloc (.cells (madeCells #[.int .i64 0] n) 3)).alloc (.cells #[.slice (some ⟨w.heap.size + 3, 0, none⟩) n n] 22)).alloc (.cells (madeCells #[.bool false] n) 4)).alloc (.cells #[.slice (some ⟨w.heap.size + 5, 0, none⟩) n n] 30)).alloc (.cells #[.slice none 0 0] 22)).alloc (.cells #[.slice none 0 0] 51)).alloc (.cells #[.int .i64 0] 3)) := ⟨_, rfl⟩
  rw [← hw0]
  have H0 : Hid (TI w n m pb A F G w0 (TS.start fun v => F (v + 1) - F v + 2) N0) :=
    { tm := tm_start w n pb _ w0 hw0
      inv := tinv_start A n F G _
      tf := tf_start n m F HC.out.1.zero HC.out.1.mono (HC.out.1.top n (Nat.le_refl _))
      tc := tc_start A n _ _ _ }
  clear hw0
  have hh := HH.out
  rw [← hh]
  clear hh
  go_loopg [10, 33] n (fun gk q t wr => ∃ u : Nat, u + gk = n ∧ t = .int .i64 u ∧ ∃ ov s N, ov = q ∧ N.ov = ov ∧ TI w n m pb A F G wr s N ∧ s.D = 0 ∧ ∀ x, x < u → s.idx x ≠ 0)
  case atStart => exact ⟨0, by omega, rfl, _, _, N0, rfl, rfl, H0.out, rfl, fun x hx => by omega⟩
  case round =>
    clear H0
    obtain ⟨u, hu, rfl, ov, s, N, rfl, hov, hti, hD0, hseen⟩ := hrel
    by_cases hlt : u < n
    · have hlt' : (u : Int) < (n : Int) := by omega
      have c2 : wr.cell? ⟨h + 2, 0, none⟩ = some (.slice (some ⟨h + 1, 0, none⟩) n n) := by rw [HH.out]; exact (hti.tm.rows 2 (by omega)).cell (i := 0) (by simp [szT])
      have c1 : wr.cell? ⟨h + 1, u, none⟩ = some (.int .i64 (s.idx u : Int)) := by rw [HH.out]; exact (hti.tm.rows 1 (by omega)).cell (i := u) (by simpa [szT] using hlt)
      have hbn := hti.bnd hn hm
      have HT : Hid (TI w n m pb A F G wr s N ∧ s.D = 0 ∧ (∀ x, x < u → s.idx x ≠ 0) ∧ N.ov = ov) := ⟨hti, hD0, hseen, hov⟩
      clear hti hseen hov hD0
      by_cases e0 : s.idx u = 0
      · have HE : Hid (s.idx u = 0) := e0
        rw [e0] at c1
        clear e0
        go_wp2_with fail
        refine (HV.out wr s N u HT.out.1.tm hlt hbn.1 hbn.2.1 hbn.2.2.1).mono ?_
        rintro e w1 ⟨rfl, hvis⟩
        have HT1 : Hid (∃ s1 N1, N1.ov = ov ∧ TI w n m pb A F G w1 s1 N1 ∧ (∀ x, x ≤ u → s1.idx x ≠ 0) ∧ sumTo s1.r n ≤ m + 2 * n) := by
          obtain ⟨sv', kv', ht⟩ := hvis
          obtain ⟨t1, t2, t3, t4⟩ := HT.out
          have h5 := ti_root t1 HC.out.1 t2 hlt HE.out ht
          have h6 := h5.tf.tot
          refine ⟨s.visit F u, { N with sv := sv', kv := kv' }, t4, h5, fun x hx => visit_seen _ _ _ _ ?_, by omega⟩
          by_cases e : x = u
          · exact .inr e
          · exact .inl (t3 x (by omega))
        clear hvis HT HE c1 c2 hbn
        obtain ⟨Gk, hG⟩ : ∃ g, g = gk := ⟨_, rfl⟩
        subst hG
        go_wp2_with fail
        go_loopg [10] (m + 2 * n) (fun gk q wr => ∃ ov s N, ov = q ∧ N.ov = ov ∧ TI w n m pb A F G wr s N ∧ (∀ x, x ≤ u → s.idx x ≠ 0) ∧ sumTo s.r n ≤ gk)
        case atStart =>
          obtain ⟨s1, N1, t1, t2, t3, t4⟩ := HT1.out
          exact ⟨_, s1, N1, rfl, t1, t2, t3, t4⟩
        case round =>
          clear HT1
          obtain ⟨ov, s, N, rfl, hov, hti, hseen, hsum⟩ := hrel
          by_cases hD : s.D = 0
          · obtain ⟨ka, kc, hkv⟩ : ∃ ka kc, N.kv = .slice ka 0 kc := by
              rcases hti.tm.lists.ks with ⟨h1, _⟩ | ⟨kb, ko, kc, h1, _⟩
              · exact ⟨_, _, h1⟩
              · rw [hD] at h1; exact ⟨_, _, h1⟩
            have c8 : wr.cell? ⟨h + 8, 0, none⟩ = some (.slice ka 0 kc) := by rw [HH.out, ← hkv]; exact (hti.tm.rows 8 (by omega)).cell (i := 0) (by simp [szT])
            have HT : Hid (TI w n m pb A F G wr s N ∧ s.D = 0 ∧ (∀ x, x ≤ u → s.idx x ≠ 0) ∧ N.ov = ov) := ⟨hti, hD, hseen, hov⟩
            clear hti hD hseen hov hkv HV
            go_wp2_with fail
            go_roundg (Gk - 1)
            case measure => omega
            case rel =>
              obtain ⟨t1, t2, t3, t4⟩ := HT.out
              exact ⟨u + 1, by omega, by go_num, ov, s, N, rfl, t4, t1, t2, fun x hx => t3 x (by omega)⟩
          · obtain ⟨d, hd⟩ : ∃ d, s.D = d + 1 := ⟨s.D - 1, by omega⟩
            obtain ⟨kb, ko, kc, hkv, hks⟩ : ∃ kb ko kc, N.kv = .slice (some ⟨kb, ko, none⟩) (d + 1) kc ∧ AppP wr 53 kb ko (d + 1) kc (fr s.cn s.cx) := by
              rcases hti.tm.lists.ks with ⟨h1, h2⟩ | ⟨kb, ko, kc, h1, h2⟩
              · exact absurd h2 hD
              · rw [hd] at h1 h2; exact ⟨_, _, _, h1, h2⟩
            obtain ⟨v, hv⟩ : ∃ v, v = s.cn d := ⟨_, rfl⟩
            obtain ⟨x, hx⟩ : ∃ x, x = s.cx d := ⟨_, rfl⟩
            have hvn : v < n := by rw [hv]; exact (hti.inv.on_idx (hti.inv.cnS d (by omega))).2
            have hxr := hti.inv.cxr d (by omega)
            rw [← hv, ← hx] at hxr
            have hFt := HC.out.1.top (v + 1) (by omega)
            have hbn := hti.bnd hn hm
            have k0 : wr.cell? ⟨kb, ko + d * 2, none⟩ = some (.int .i64 (v : Int)) := by
              have := hks.seg (d * 2) (by omega); rw [fr_even, ← hv] at this; exact this
            have k1 : wr.cell? ⟨kb, ko + d * 2 + 1, none⟩ = some (.int .i64 (x : Int)) := by
              have := hks.seg (d * 2 + 1) (by omega); rw [fr_odd, ← hx] at this; exact this
            have kf : wr.frozen? ⟨kb, ko + d * 2 + 1, none⟩ = false := by
              obtain ⟨c, hc, _⟩ := hks.blk
              exact frozen_of_row wr kb _ c 53 hc
            have c8 : wr.cell? ⟨h + 8, 0, none⟩ = some (.slice (some ⟨kb, ko, none⟩) (d + 1) kc) := by rw [HH.out, ← hkv]; exact (hti.tm.rows 8 (by omega)).cell (i := 0) (by simp [szT])
            have c0 : wr.cell? ⟨h, 0, none⟩ = some (.pointer (some ⟨pb, 0, none⟩)) := by rw [HH.out]; exact (hti.tm.rows 0 (by omega)).cell (i := 0) (by simp [szT])
            have cg : wr.cell? ⟨pb, 0, none⟩ = some (.slice (some ⟨fb, 0, none⟩) (n + 1) (n + 1)) := (hti.tm.bel.cell (p := ⟨pb, 0, none⟩) hpb).trans HC.out.2.2.2.1
            have cg1 : wr.cell? ⟨pb, 1, none⟩ = some (.slice (some ⟨gb, 0, none⟩) m m) := (hti.tm.bel.cell (p := ⟨pb, 1, none⟩) hpb).trans HC.out.2.2.2.2
            have cF : wr.cell? ⟨fb, v + 1, none⟩ = some (.int .i64 (F (v + 1) : Int)) := (HC.out.2.2.1.f.of_block (hti.tm.bel.block fb HC.out.2.2.1.f.lt)).cell (i := v + 1) (by omega)
            have hvi : (v : Int) + 1 < (n : Int) + 1 := by omega
            have hdi : (d : Int) < (d : Int) + 1 := by omega
            have hdb : (d : Int) ≤ 20000 := by omega
            have hvb : (v : Int) ≤ 4096 := by omega
            have hxb : (x : Int) ≤ 4096 := by omega
            have HT : Hid (TI w n m pb A F G wr s N ∧ s.D = d + 1 ∧ (∀ x, x ≤ u → s.idx x ≠ 0) ∧ N.ov = ov ∧ v = s.cn d ∧ x = s.cx d ∧ N.kv = .slice (some ⟨kb, ko, none⟩) (d + 1) kc ∧ sumTo s.r n ≤ gk) := ⟨hti, hd, hseen, hov, hv, hx, hkv, hsum⟩
            have hgk : 0 < gk := by
              have := hti.tf.gr d (by omega)
              have h2 := sumTo_upd s.r (s.cn d) 0 n (by rw [← hv]; exact hvn)
              omega
            by_cases hxF : x < F (v + 1)
            · have hxF' : (x : Int) < (F (v + 1) : Int) := by omega
              have cG : wr.cell? ⟨gb, x, none⟩ = some (.int .i64 (G x : Int)) := (HC.out.2.2.1.g.of_block (hti.tm.bel.block gb HC.out.2.2.1.g.lt)).cell (i := x) (by omega)
              have hxm : (x : Int) < (m : Int) := by omega
              clear hti hd hseen hov hv hx hkv hks hsum hD
              go_wp2_with fail
              go_quiet (fail)
              go_wp2_with fail
              obtain ⟨w2, hw2⟩ : ∃ u, u = wr.drewN nq := ⟨_, rfl⟩
              rw [← hw2]
              have H2 : Hid (w2 = wr.drewN nq) := hw2
              have c0 : w2.cell? ⟨h, 0, none⟩ = some (.pointer (some ⟨pb, 0, none⟩)) := by rw [hw2]; exact c0
              have cg1 : w2.cell? ⟨pb, 1, none⟩ = some (.slice (some ⟨gb, 0, none⟩) m m) := by rw [hw2]; exact cg1
              have k1 : w2.cell? ⟨kb, ko + d * 2 + 1, none⟩ = some (.int .i64 (x : Int)) := by rw [hw2]; exact k1
              have cG : w2.cell? ⟨gb, x, none⟩ = some (.int .i64 (G x : Int)) := by rw [hw2]; exact cG
              have kf : w2.frozen? ⟨kb, ko + d * 2 + 1, none⟩ = false := by rw [hw2]; exact kf
              clear hw2
              go_quiet (fail)
              go_upto_region 21 with fail
              obtain ⟨w3, hw3⟩ : ∃ u, u = (w2.drewN nq).setCell ⟨kb, ko + d * 2 + 1, none⟩ (.int .i64 ((x : Int) + 1)) := ⟨_, rfl⟩
              rw [← hw3]
              have H3 : Hid (TM w n pb w3 { s with cx := upd s.cx d (x + 1) } N) := by
                obtain ⟨t1, t2, t3, t4, t5, t6, t7, t8⟩ := HT.out
                have h0 : TM w n pb w2 s N := by rw [H2.out]; exact t1.tm.drewN _
                rw [hw3]
                exact (h0.drewN nq).setN (d := d) (by rw [t7, t2]) (x + 1) (by rw [t2]; omega)
              have hGn : G x < n := by
                obtain ⟨t1, t2, t3, t4, t5, t6, t7, t8⟩ := HT.out
                exact (HC.out.1.snd v hvn x hxr.1 hxF).1
              obtain ⟨y, hy⟩ : ∃ y, y = G x := ⟨_, rfl⟩
              rw [← hy] at hGn ⊢
              have hyn : (y : Int) < (n : Int) := by omega
              have d2 : w3.cell? ⟨h + 2, 0, none⟩ = some (.slice (some ⟨h + 1, 0, none⟩) n n) := by rw [HH.out]; exact (H3.out.rows 2 (by omega)).cell (i := 0) (by simp [szT])
              have d1 : w3.cell? ⟨h + 1, y, none⟩ = some (.int .i64 (s.idx y : Int)) := by rw [HH.out]; exact (H3.out.rows 1 (by omega)).cell (i := y) (by simpa [szT] using hGn)
              have HY : Hid (y = G x) := hy
              clear hw3 c0 cg cg1 cF k0 k1 kf cG c8 hy
              by_cases ey : s.idx y = 0
              · have HE : Hid (s.idx y = 0) := ey
                rw [ey] at d1
                clear ey
                go_wp2_with fail
                refine (HV.out w3 _ N y H3.out hGn hbn.1 hbn.2.1 hbn.2.2.1).mono ?_
                rintro e w4 ⟨rfl, hvis⟩
                have HT4 : Hid (∃ s1 N1, N1.ov = ov ∧ TI w n m pb A F G w4 s1 N1 ∧ (∀ x, x ≤ u → s1.idx x ≠ 0) ∧ sumTo s1.r n ≤ gk - 1) := by
                  obtain ⟨sv', kv', ht⟩ := hvis
                  obtain ⟨t1, t2, t3, t4, t5, t6, t7, t8⟩ := HT.out
                  have ey := HE.out
                  have ey2 := HY.out
                  subst t5 t6 ey2
                  obtain ⟨s', r1, r2, r3⟩ := ti_edge_new t1 HC.out.1 t2 hxF ey ht
                  exact ⟨s', { N with sv := sv', kv := kv' }, t4, r1, fun x hx => r3 x (t3 x hx), by omega⟩
                clear hvis HT HE d1 d2 H3 HV
                go_wp2_with fail
                go_roundg (gk - 1)
                case measure => omega
                case rel =>
                  obtain ⟨s1, N1, t1, t2, t3, t4⟩ := HT4.out
                  exact ⟨_, s1, N1, rfl, t1, t2, t3, t4⟩
              · have HE : Hid (s.idx y ≠ 0) := ey
                have ey' : ¬ (s.idx y : Int) = 0 := by omega
                have d6 : w3.cell? ⟨h + 6, 0, none⟩ = some (.slice (some ⟨h + 5, 0, none⟩) n n) := by rw [HH.out]; exact (H3.out.rows 6 (by omega)).cell (i := 0) (by simp [szT])
                have d5 : w3.cell? ⟨h + 5, y, none⟩ = some (.bool (s.on y)) := by rw [HH.out]; exact (H3.out.rows 5 (by omega)).cell (i := y) (by simpa [szT] using hGn)
                cases eo : s.on y with
                | false =>
                  rw [eo] at d5
                  have HO : Hid (s.on y = false) := eo
                  clear eo
                  go_wp2_with fail
                  go_roundg (gk - 1)
                  case measure => omega
                  case rel =>
                    obtain ⟨t1, t2, t3, t4, t5, t6, t7, t8⟩ := HT.out
                    have ey := HE.out
                    have eo := HO.out
                    have ey2 := HY.out
                    subst t5 t6 ey2
                    obtain ⟨s', r1, r2, r3⟩ := ti_edge_old t1 HC.out.1 t2 hxF ey s.low (.inl ⟨eo, rfl⟩) H3.out
                    exact ⟨_, s', N, rfl, t4, r1, fun x hx => r3 x (t3 x hx), by omega⟩
                | true =>
                  rw [eo] at d5
                  have HO : Hid (s.on y = true) := eo
                  clear eo
                  have d4 : w3.cell? ⟨h + 4, 0, none⟩ = some (.slice (some ⟨h + 3, 0, none⟩) n n) := by rw [HH.out]; exact (H3.out.rows 4 (by omega)).cell (i := 0) (by simp [szT])
                  have d3 : w3.cell? ⟨h + 3, v, none⟩ = some (.int .i64 (s.low v : Int)) := by rw [HH.out]; exact (H3.out.rows 3 (by omega)).cell (i := v) (by simpa [szT] using hvn)
                  have f3 : w3.frozen? ⟨h + 3, v, none⟩ = false := by rw [HH.out]; exact (H3.out.rows 3 (by omega)).frozen v
                  have hvn' : (v : Int) < (n : Int) := by omega
                  go_wp2_with fail
                  go_region
                  have hmin : min (s.low v : Int) (s.idx y : Int) = ((min (s.low v) (s.idx y) : Nat) : Int) := by omega
                  rw [hmin]
                  obtain ⟨w4, hw4⟩ : ∃ u, u = (w3.setCell ⟨h + 3, v, none⟩ (.int .i64 ((min (s.low v) (s.idx y) : Nat) : Int))).drew := ⟨_, rfl⟩
                  rw [← hw4]
                  have HT4 : Hid (∃ s1 N1, N1.ov = ov ∧ TI w n m pb A F G w4 s1 N1 ∧ (∀ x, x ≤ u → s1.idx x ≠ 0) ∧ sumTo s1.r n ≤ gk - 1) := by
                    obtain ⟨t1, t2, t3, t4, t5, t6, t7, t8⟩ := HT.out
                    have ht : TM w n pb w4 { s with cx := upd s.cx d (x + 1), low := upd s.low v (min (s.low v) (s.idx y)) } N := by
                      have := H3.out.setL v (min (s.low v) (s.idx y))
                      rw [← HH.out] at this
                      rw [hw4]
                      exact this.later (Below.refl _ _).drew
                    have ey := HE.out
                    have eo := HO.out
                    have ey2 := HY.out
                    subst t5 t6 ey2
                    obtain ⟨s', r1, r2, r3⟩ := ti_edge_old t1 HC.out.1 t2 hxF ey _ (.inr ⟨eo, rfl⟩) ht
                    exact ⟨s', N, t4, r1, fun x hx => r3 x (t3 x hx), by omega⟩
                  clear hw4 hmin HT HE HO d1 d2 d3 d4 d5 d6 f3 H3 HV
                  go_wp2_with fail
                  go_roundg (gk - 1)
                  case measure => omega
                  case rel =>
                    obtain ⟨s1, N1, t1, t2, t3, t4⟩ := HT4.out
                    exact ⟨_, s1, N1, rfl, t1, t2, t3, t4⟩
            · have hxF' : ¬ (x : Int) < (F (v + 1) : Int) := by omega
              have hkc : (d : Int) ≤ (kc : Int) := by have := hks.le; omega
              have f8 : wr.frozen? ⟨h + 8, 0, none⟩ = false := by rw [HH.out]; exact (hti.tm.rows 8 (by omega)).frozen 0
              have HK : Hid (AppP wr 53 kb ko (d + 1) kc (fr s.cn s.cx)) := hks
              clear hti hd hseen hov hv hx hkv hks hsum hD
              go_wp2_with fail
              go_quiet (fail)
              go_upto_region 26 with fail
              obtain ⟨w3, hw3⟩ : ∃ u, u = (wr.drewN nq).setCell ⟨h + 8, 0, none⟩ (.slice (some ⟨kb, ko, none⟩) d kc) := ⟨_, rfl⟩
              rw [← hw3]
              obtain ⟨kv2, hkv2⟩ : ∃ u, u = Value.slice (some ⟨kb, ko, none⟩) d kc := ⟨_, rfl⟩
              have H3 : Hid (TM w n pb w3 { s with D := d } { N with kv := kv2 }) := by
                obtain ⟨t1, t2, t3, t4, t5, t6, t7, t8⟩ := HT.out
                have := (t1.tm.drewN nq).cutK (b := kb) (o := ko) (cap := kc) (by rw [t7, t2]) d (by omega)
                rw [hw3, hkv2, HH.out]
                exact this
              have d8 : w3.cell? ⟨h + 8, 0, none⟩ = some (.slice (some ⟨kb, ko, none⟩) d kc) := by
                have : w3.cell? ⟨h + 8, 0, none⟩ = some kv2 := by rw [HH.out]; exact (H3.out.rows 8 (by omega)).cell (i := 0) (by simp [szT])
                rw [this, hkv2]
              clear hw3 c0 cg cg1 cF k0 k1 kf c8 f8 HV
              go_upto_if 117 with fail
              go_cut [16] (fun _ wc => TM w n pb wc { s with D := d, low := lowUp s d } { N with kv := kv2 })
              case first =>
                by_cases hd0 : d = 0
                · have hd0' : ¬ (0 : Int) < (d : Int) := by omega
                  have H3' : Hid (TM w n pb w3 { s with D := d, low := lowUp s d } { N with kv := kv2 }) := by
                    have : lowUp s d = s.low := if_pos hd0
                    rw [this]; exact H3.out
                  clear hd0
                  go_wp2_with fail
                  go_meet
                  case rel => exact H3'.out
                · have hd0' : (0 : Int) < (d : Int) := by omega
                  obtain ⟨e, he⟩ : ∃ e, d = e + 1 := ⟨d - 1, by omega⟩
                  subst he
                  obtain ⟨p, hp⟩ : ∃ p, p = s.cn e := ⟨_, rfl⟩
                  have hpn : p < n := by
                    obtain ⟨t1, t2, t3, t4, t5, t6, t7, t8⟩ := HT.out
                    rw [hp]; exact (t1.inv.on_idx (t1.inv.cnS e (by omega))).2
                  have hpn' : (p : Int) < (n : Int) := by omega
                  have hvn' : (v : Int) < (n : Int) := by omega
                  have g0 : w3.cell? ⟨kb, ko + e * 2, none⟩ = some (.int .i64 (p : Int)) := by
                    rcases H3.out.lists.ks with ⟨h1, _⟩ | ⟨kb2, ko2, kc2, h1, h2⟩
                    · have h1' : kv2 = _ := h1
                      rw [hkv2] at h1'; cases h1'
                    · have h1' : kv2 = _ := h1
                      rw [hkv2] at h1'
                      cases h1'
                      have := h2.seg (e * 2) (by show e * 2 < (e + 1) * 2; omega)
                      rw [fr_even] at this
                      rw [hp]; exact this
                  have d4 : w3.cell? ⟨h + 4, 0, none⟩ = some (.slice (some ⟨h + 3, 0, none⟩) n n) := by rw [HH.out]; exact (H3.out.rows 4 (by omega)).cell (i := 0) (by simp [szT])
                  have d3 : w3.cell? ⟨h + 3, v, none⟩ = some (.int .i64 (s.low v : Int)) := by rw [HH.out]; exact (H3.out.rows 3 (by omega)).cell (i := v) (by simpa [szT] using hvn)
                  have d3p : w3.cell? ⟨h + 3, p, none⟩ = some (.int .i64 (s.low p : Int)) := by rw [HH.out]; exact (H3.out.rows 3 (by omega)).cell (i := p) (by simpa [szT] using hpn)
                  have f3 : w3.frozen? ⟨h + 3, p, none⟩ = false := by rw [HH.out]; exact (H3.out.rows 3 (by omega)).frozen p
                  have HP : Hid (p = s.cn e) := hp
                  have heb : (e : Int) ≤ 20000 := by omega
                  clear hp
                  go_wp2_with fail
                  go_region
                  have hmin : min (s.low p : Int) (s.low v : Int) = ((min (s.low p) (s.low v) : Nat) : Int) := by omega
                  rw [hmin]
                  go_wp2_with fail
                  go_meet
                  case rel =>
                    obtain ⟨t1, t2, t3, t4, t5, t6, t7, t8⟩ := HT.out
                    have := H3.out.setL p (min (s.low p) (s.low v))
                    have e1 : lowUp s (e + 1) = upd s.low p (min (s.low p) (s.low v)) := by
                      unfold lowUp
                      rw [if_neg (by omega), show e + 1 - 1 = e from by omega, ← HP.out, ← t5]
                    rw [e1]
                    rw [← HH.out] at this
                    exact this.later (Below.refl _ _).drew
              case rest =>
                have H4 : Hid (TM w n pb wc { s with D := d, low := lowUp s d } { N with kv := kv2 }) := hcut
                have hvn' : (v : Int) < (n : Int) := by omega
                have d4 : wc.cell? ⟨h + 4, 0, none⟩ = some (.slice (some ⟨h + 3, 0, none⟩) n n) := by rw [HH.out]; exact (H4.out.rows 4 (by omega)).cell (i := 0) (by simp [szT])
                have d3 : wc.cell? ⟨h + 3, v, none⟩ = some (.int .i64 (s.low v : Int)) := by
                  obtain ⟨t1, t2, t3, t4, t5, t6, t7, t8⟩ := HT.out
                  have e1 := (lowUp_laws t1.inv t2).2.2
                  rw [← t5] at e1
                  rw [HH.out, ← e1]
                  exact (H4.out.rows 3 (by omega)).cell (i := v) (by simpa [szT] using hvn)
                have d2 : wc.cell? ⟨h + 2, 0, none⟩ = some (.slice (some ⟨h + 1, 0, none⟩) n n) := by rw [HH.out]; exact (H4.out.rows 2 (by omega)).cell (i := 0) (by simp [szT])
                have d1 : wc.cell? ⟨h + 1, v, none⟩ = some (.int .i64 (s.idx v : Int)) := by rw [HH.out]; exact (H4.out.rows 1 (by omega)).cell (i := v) (by simpa [szT] using hvn)
                clear hcut d8 H3
                by_cases hl : s.low v = s.idx v
                · have hl' : ((s.low v : Int) != (s.idx v : Int)) = false := by rw [hl]; simp
                  have hl'' : ¬ ((s.low v : Int) ≠ (s.idx v : Int)) := by omega
                  have HL : Hid (s.low v = s.idx v) := hl
                  rw [hl] at d3
                  clear hl hl' hl''
                  go_wp2_with fail
                  go_quiet (fail)
                  go_upto_region 31 with fail
                  obtain ⟨wB, hwB⟩ : ∃ u, u = wc.drewN nq := ⟨_, rfl⟩
                  rw [← hwB]
                  have H5 : Hid (TM w n pb wB { s with D := d, low := lowUp s d } { N with kv := kv2 }) := by rw [hwB]; exact H4.out.drewN nq
                  clear hwB d1 d2 d3 d4 H4
                  obtain ⟨k, hkS, hkv⟩ : ∃ k, k < s.S ∧ s.st k = v := by
                    obtain ⟨t1, t2, t3, t4, t5, t6, t7, t8⟩ := HT.out
                    obtain ⟨k, h1, h2⟩ := (t1.inv.onS v).1 (by rw [t5]; exact t1.inv.cnS d (by omega))
                    exact ⟨k, h1, h2⟩
                  obtain ⟨sb, so, sc, hsv⟩ : ∃ sb so sc, N.sv = .slice (some ⟨sb, so, none⟩) s.S sc := by
                    rcases H5.out.lists.st with ⟨_, h2⟩ | ⟨sb, so, sc, h1, _⟩
                    · have h2' : s.S = 0 := h2
                      omega
                    · exact ⟨sb, so, sc, h1⟩
                  have HB : Hid (CB w n pb wB { s with D := d, low := lowUp s d } { N with kv := kv2 } sb so sc wB 0 s.on (.slice none 0 0)) := cb_start H5.out hsv
                  have HKV : Hid (s.st k = v ∧ N.sv = .slice (some ⟨sb, so, none⟩) s.S sc ∧ ∀ i, i < s.S → (s.st i = v ↔ i = k)) := by
                    obtain ⟨t1, t2, t3, t4, t5, t6, t7, t8⟩ := HT.out
                    refine ⟨hkv, hsv, fun i hi => ⟨fun e => ?_, fun e => by rw [e]; exact hkv⟩⟩
                    rcases Nat.lt_trichotomy i k with h1 | h1 | h1
                    · have := t1.inv.inc i k h1 hkS; rw [e, hkv] at this; omega
                    · exact h1
                    · have := t1.inv.inc k i h1 hi; rw [e, hkv] at this; omega
                  have hstn : Hid (∀ i, i < s.S → s.st i < n) := fun i hi => by
                    obtain ⟨t1, t2, t3, t4, t5, t6, t7, t8⟩ := HT.out
                    exact (t1.inv.stn i hi).1
                  obtain ⟨S, hS⟩ : ∃ S, S = s.S := ⟨_, rfl⟩
                  have HSS : Hid (S = s.S) := hS
                  rw [← hS] at hkS hbn
                  clear hkv hsv hS H5
                  obtain ⟨Gi, hGi⟩ : ∃ g, g = gk := ⟨_, rfl⟩
                  subst hGi
                  go_loopg [17] (S - k) (fun gk q wr => ∃ j : Nat, j + gk = S - k ∧ 0 < gk ∧ ∃ cv on', cv = q ∧ CB w n pb wB { s with D := d, low := lowUp s d } { N with kv := kv2 } sb so sc wr j on' cv)
                  case atStart => exact ⟨0, by omega, by omega, _, _, rfl, HB.out⟩
                  case round =>
                    clear HB
                    obtain ⟨j, hj, hgk0, cv, on', rfl, hcb⟩ := hrel
                    obtain ⟨l, hl⟩ : ∃ l, S - j = l + 1 := ⟨S - j - 1, by omega⟩
                    obtain ⟨y, hy⟩ : ∃ y, y = s.st l := ⟨_, rfl⟩
                    have hlS : l < S := by omega
                    have hyn : y < n := by rw [hy]; exact hstn.out l (by rw [← HSS.out]; omega)
                    have hyn' : (y : Int) < (n : Int) := by omega
                    have hlb : (l : Int) ≤ 20000 := by omega
                    have hsj : s.S - j = l + 1 := by rw [← HSS.out]; exact hl
                    obtain ⟨hlsc, x1⟩ : l + 1 ≤ sc ∧ wr.cell? ⟨sb, so + l, none⟩ = some (.int .i64 (y : Int)) := by
                      rcases hcb.tm.lists.st with ⟨h1, _⟩ | ⟨b2, o2, c2, h1, h2⟩
                      · cases h1
                      · have h1' : Value.slice (some ⟨sb, so, none⟩) (s.S - j) sc = Value.slice (some ⟨b2, o2, none⟩) (s.S - j) c2 := h1
                        cases h1'
                        have hle := h2.le
                        have hle' : s.S - j ≤ sc := hle
                        have := h2.seg l (by show l < s.S - j; omega)
                        rw [hy]
                        exact ⟨by omega, this⟩
                    have hlsc' : (l : Int) ≤ (sc : Int) := by omega
                    have c7 : wr.cell? ⟨h + 7, 0, none⟩ = some (.slice (some ⟨sb, so, none⟩) (l + 1) sc) := by
                      rw [HH.out, ← hsj]; exact (hcb.tm.rows 7 (by omega)).cell (i := 0) (by simp [szT])
                    have f7 : wr.frozen? ⟨h + 7, 0, none⟩ = false := by rw [HH.out]; exact (hcb.tm.rows 7 (by omega)).frozen 0
                    have c6 : wr.cell? ⟨h + 6, 0, none⟩ = some (.slice (some ⟨h + 5, 0, none⟩) n n) := by rw [HH.out]; exact (hcb.tm.rows 6 (by omega)).cell (i := 0) (by simp [szT])
                    have c5 : wr.cell? ⟨h + 5, y, none⟩ = some (.bool (on' y)) := by rw [HH.out]; exact (hcb.tm.rows 5 (by omega)).cell (i := y) (by simpa [szT] using hyn)
                    have f5 : wr.frozen? ⟨h + 5, y, none⟩ = false := by rw [HH.out]; exact (hcb.tm.rows 5 (by omega)).frozen y
                    have HCB : Hid (CB w n pb wB { s with D := d, low := lowUp s d } { N with kv := kv2 } sb so sc wr j on' cv) := hcb
                    have HY : Hid (y = s.st l ∧ s.S - j = l + 1) := ⟨hy, hsj⟩
                    clear hcb hy hsj
                    go_upto_region 34 with fail
                    obtain ⟨w3, hw3⟩ : ∃ u, u = (wr.setCell ⟨h + 7, 0, none⟩ (.slice (some ⟨sb, so, none⟩) l sc)).setCell ⟨h + 5, y, none⟩ (.bool false) := ⟨_, rfl⟩
                    rw [← hw3]
                    have happ : AppV (w3.alloc (.cells #[.int .i64 (y : Int)] 3)) 3 cv j (fun i => .int .i64 (s.st (s.S - 1 - i))) := HCB.out.app.of_block fun b e => by
                      have hb := HCB.out.ob b e
                      have hB10 : w.heap.size + 10 ≤ wB.heap.size := by
                        have := (HCB.out.tm.lists.hi sb (.inl rfl)).1
                        have := HCB.out.hiB sb (.inl HCB.out.own)
                        omega
                      have e1 : w3.heap[b]? = wr.heap[b]? := by
                        rw [hw3, heap_setCell_other _ _ _ _ (by have := HH.out; simp; omega), heap_setCell_other _ _ _ _ (by have := HH.out; simp; omega)]
                      have e2 : b < w3.heap.size := by rw [hw3]; simpa [World.setCell] using hb.2
                      rw [((Below.refl w3.heap.size w3).alloc (Nat.le_refl _) _).block b e2, e1]
                    have HW3 : Hid (w3 = (wr.setCell ⟨h + 7, 0, none⟩ (.slice (some ⟨sb, so, none⟩) l sc)).setCell ⟨h + 5, y, none⟩ (.bool false)) := hw3
                    clear hw3 c7 f7 c6 c5 f5 x1
                    go_upto_region 35 with (at_builtin; refine wpList_append_app rfl (.tmp 160) (.tmp 162) 22 rfl 3 (.int .i64 0) 8 Try.underlying22 Try.info3 rfl cv rfl j (fun i => .int .i64 (s.st (s.S - 1 - i))) happ _ rfl 1 [.int .i64 (y : Int)] (src_one y) (by omega) (by omega) (by omega) ?_; intro b2 o2 cp2 w5 hA1 hown1 hg1 hlt1)
                    have HC5 : Hid (CB w n pb wB { s with D := d, low := lowUp s d } { N with kv := kv2 } sb so sc w5 (j + 1) (upd on' y false) (.slice (some ⟨b2, o2, none⟩) (j + 1) cp2)) := by
                      have e3 := HW3.out
                      rw [HH.out] at e3
                      exact cb_round HCB.out (by show j < s.S; have := HSS.out; omega) (by have := HY.out; show y = s.st (s.S - 1 - j); rw [show s.S - 1 - j = l from by omega]; exact this.1) HY.out.2 e3 hA1 hown1 hg1
                    have HA5 : Hid (App w5 3 b2 o2 (j + 1) cp2 (fun i => .int .i64 (s.st (s.S - 1 - i)))) := by
                      rcases HC5.out.app with ⟨h1, _⟩ | ⟨b3, o3, c3, h1, h2⟩
                      · cases h1
                      · cases h1; exact h2
                    clear happ hA1 hown1 hg1 hlt1 HW3 HCB
                    by_cases hlk : l = k
                    · have hyv : y = v := by rw [HY.out.1, hlk]; exact HKV.out.1
                      subst hyv
                      by_cases hj0 : j = 0
                      · have hj1 : ¬ (1 : Int) < (j : Int) + 1 := by omega
                        have HJ : Hid (j = 0) := hj0
                        have HT6 : Hid (∃ s1 N1, N1.ov = ov ∧ TI w n m pb A F G w5 s1 N1 ∧ (∀ x, x ≤ u → s1.idx x ≠ 0) ∧ sumTo s1.r n ≤ Gi - 1) := by
                          obtain ⟨t1, t2, t3, t4, t5, t6, t7, t8⟩ := HT.out
                          have hl := HL.out
                          have hkk := HKV.out.1
                          have hs := HSS.out
                          have hy := HY.out
                          rw [t5] at hl hkk
                          rw [t5, t6] at hxF
                          obtain ⟨s', N', r0, r1, r2, r3⟩ := cb_done1 t1 HC.out.1 t2 hxF hl (k := k) (by omega) hkk HC5.out (by omega) (by omega)
                          exact ⟨s', N', r0.trans t4, r1, fun x hx => r3 x (t3 x hx), by omega⟩
                        clear hj0 HC5 HA5 HT HL HKV
                        go_wp2_with fail
                        go_roundg (Gi - 1)
                        case measure => omega
                        case rel =>
                          obtain ⟨s1, N1, t1, t2, t3, t4⟩ := HT6.out
                          exact ⟨_, s1, N1, rfl, t1, t2, t3, t4⟩
                      · have hj1 : (1 : Int) < (j : Int) + 1 := by omega
                        have hcall : Hid (Calls Try.prog 29 #[.slice (some ⟨b2, o2, none⟩) (j + 1) cp2] w5 fun e w' => e = .returned (.tuple #[]) ∧ SortQ w5 b2 o2 (j + 1) (fun i => s.st (s.S - 1 - i)) w') := by
                          obtain ⟨t1, t2, t3, t4, t5, t6, t7, t8⟩ := HT.out
                          have hs := HSS.out
                          exact sort_any w5 b2 o2 (j + 1) cp2 cp2 _ HA5.out (by omega) (cb_inj t1.inv (by omega))
                        go_wp2_with fail
                        refine hcall.out.mono ?_
                        rintro e w6 ⟨rfl, hsq⟩
                        obtain ⟨g, g1, g2, g3, g4⟩ := hsq
                        have HG6 : Hid (Seg w6 b2 o2 (j + 1) (fun i => iv (g i)) ∧ (∀ i i', i < i' → i' < j + 1 → g i < g i') ∧ (∀ x, (∃ i, i < j + 1 ∧ g i = x) ↔ ∃ i, i < j + 1 ∧ s.st (s.S - 1 - i) = x) ∧ w5.grownBy w6 (some b2)) := ⟨g1, g2, g3, g4⟩
                        have hout : AppV (w6.alloc (.cells #[.slice (some ⟨b2, o2, none⟩) (j + 1) cp2] 22)) 22 ov N.K (fun c => .slice (some ⟨N.cb c, N.co c, none⟩) (N.ln c) (N.cc c)) := by
                          have t1 := (cb_sorted HC5.out g4).1
                          have t2 := t1.lists.out.of_block (w' := w6.alloc (.cells #[.slice (some ⟨b2, o2, none⟩) (j + 1) cp2] 22)) fun x e => ((Below.refl w6.heap.size w6).alloc (Nat.le_refl _) _).block x (t1.lists.hi x (.inr (.inr (.inl e)))).2
                          rw [← HT.out.2.2.2.1]
                          exact t2
                        obtain ⟨K, hK⟩ : ∃ K, K = N.K := ⟨_, rfl⟩
                        have HK2 : Hid (K = N.K) := hK
                        have hKb : K ≤ 20000 := by rw [hK]; exact hbn.2.2.2
                        rw [← hK] at hout
                        clear g1 g2 g3 g4 hcall HA5 hK hj0
                        go_wp2_with (at_builtin; refine wpList_append_app rfl (.tmp 172) (.tmp 174) 26 rfl 22 (.slice none 0 0) 24 Try.underlying26 Try.info22 rfl ov rfl K (fun c => .slice (some ⟨N.cb c, N.co c, none⟩) (N.ln c) (N.cc c)) hout _ rfl 1 [.slice (some ⟨b2, o2, none⟩) (j + 1) cp2] (src_slice _ _ _) (by omega) (by omega) (by omega) ?_; intro b7 o7 cp7 w7 hA7 hown7 hg7 hlt7)
                        go_wp2_with fail
                        go_roundg (Gi - 1)
                        case measure => omega
                        case rel =>
                          obtain ⟨t1, t2, t3, t4, t5, t6, t7, t8⟩ := HT.out
                          obtain ⟨q1, q2, q3, q4⟩ := HG6.out
                          have hl := HL.out
                          have hkk := HKV.out.1
                          have hs := HSS.out
                          have hy := HY.out
                          have hk2 := HK2.out
                          rw [t5] at hl hkk
                          rw [t5, t6] at hxF
                          subst hk2
                          rw [← t4] at hown7 hg7
                          obtain ⟨s', N', r0, r1, r2, r3⟩ := cb_done2 t1 HC.out.1 t2 hxF hl (k := k) (by omega) hkk HC5.out (by omega) (by omega) q1 q2 q3 q4 hA7 hown7 hg7
                          exact ⟨_, s', N', rfl, r0, r1, fun x hx => r3 x (t3 x hx), by omega⟩
                    · have hyv : ¬ (y : Int) = (v : Int) := by
                        intro e
                        exact hlk ((HKV.out.2.2 l (by rw [← HSS.out]; omega)).1 (by rw [← HY.out.1]; omega))
                      have hgk2 : 1 < gk := by omega
                      clear hlk HA5
                      go_wp2_with fail
                      go_roundg (gk - 1)
                      case measure => omega
                      case rel => exact ⟨j + 1, by omega, by omega, _, _, rfl, HC5.out⟩
                · have hl' : ¬ ((s.low v : Int) = (s.idx v : Int)) := by omega
                  have HL : Hid (s.low v ≠ s.idx v) := hl
                  clear hl
                  go_wp2_with fail
                  go_quiet (fail)
                  go_wp2_with fail
                  go_roundg (gk - 1)
                  case measure => omega
                  case rel =>
                    obtain ⟨t1, t2, t3, t4, t5, t6, t7, t8⟩ := HT.out
                    have hl := HL.out
                    subst t5 t6
                    obtain ⟨s', r1, r2, r3⟩ := ti_popA t1 HC.out.1 t2 hxF hl H4.out
                    exact ⟨_, s', { N with kv := kv2 }, rfl, t4, r1.later (below_drewN (Below.refl _ _) _), fun x hx => r3 x (t3 x hx), by omega⟩
      · have HE : Hid (s.idx u ≠ 0) := e0
        have e0' : ¬ (s.idx u : Int) = 0 := by omega
        clear HV
        go_wp2_with fail
        go_roundg (gk - 1)
        case measure => omega
        case rel =>
          obtain ⟨t1, t2, t3, t4⟩ := HT.out
          exact ⟨u + 1, by omega, by go_num, ov, s, N, rfl, t4, t1, t2, fun x hx => by
            by_cases e : x = u
            · rw [e]; exact HE.out
            · exact t3 x (by omega)⟩
    · have hlt' : ¬ (u : Int) < (n : Int) := by omega
      have hbn := hti.bnd hn hm
      have hcalls : Calls Try.prog 30 #[ov, .func (.func 31) #[] #[]] wr fun e w' => e = .returned (.tuple #[]) ∧ SFQ wr N.ov N.K N.cb N.co N.cc N.ln N.C w' := by
        rw [← hov]
        by_cases hK : N.K = 0
        · obtain ⟨oa, oc, hoa⟩ : ∃ oa oc, N.ov = .slice oa 0 oc := by
            rcases hti.tm.lists.out with ⟨h1, _⟩ | ⟨b, o, c, h1, _⟩
            · exact ⟨_, _, h1⟩
            · rw [hK] at h1; exact ⟨_, _, h1⟩
          have hs := sortFunc_none wr oa oc (.func (.func 31) #[] #[])
          rw [← hoa] at hs
          refine hs.mono ?_
          rintro e w' ⟨rfl, rfl⟩
          exact ⟨rfl, id, fun c hc => hc, fun c hc => ⟨c, hc, rfl⟩, fun c d _ hd => by omega, hti.tm.lists.out, ⟨rfl, rfl, rfl, Nat.le_refl _, fun _ _ _ => rfl⟩⟩
        · rcases hti.tm.lists.out with ⟨_, h2⟩ | ⟨ob, oo, oc, h1, h2⟩
          · exact absurd h2 hK
          · rw [h1]
            refine sortFunc_any wr ob oo oc N.K N.cb N.co N.cc N.ln N.C (by omega) (by omega) h2 (fun c hc => ?_) hti.tc.dis
            have hb := hti.tc.big c hc
            have h3 := hti.tm.lists.cls c hc 0 (by omega)
            have h4 := ((hti.tc.lst c hc).mem 0 (by omega)).1
            exact ⟨by omega, h3, (hti.tm.lists.hi _ (.inr (.inr (.inr ⟨c, hc, rfl⟩)))).2, hti.tm.lists.d3 ob (by rw [h1]; rfl) c hc, by omega⟩
      have HT : Hid (TI w n m pb A F G wr s N ∧ s.D = 0 ∧ (∀ x, x < u → s.idx x ≠ 0) ∧ N.ov = ov) := ⟨hti, hD0, hseen, hov⟩
      have HCS : Hid (Calls Try.prog 30 #[ov, .func (.func 31) #[] #[]] wr fun e w' => e = .returned (.tuple #[]) ∧ SFQ wr N.ov N.K N.cb N.co N.cc N.ln N.C w') := hcalls
      clear hti hseen hov hD0 hcalls HV
      go_wp2_with fail
      refine HCS.out.mono ?_
      rintro e w2 ⟨rfl, hsf⟩
      have HF : Hid (ClsQ w n A (.returned ov) w2) := by
        obtain ⟨t1, t2, t3, t4⟩ := HT.out
        rw [← t4]
        exact comps_end t1 t2 (fun x hx => t3 x (by omega)) hsf
      clear hsf HT HCS
      go_wp2_with fail
      go_ret
      exact HF.out

end Go.Proofs.Qxb6600486a

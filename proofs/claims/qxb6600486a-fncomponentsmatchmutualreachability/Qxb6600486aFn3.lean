/-
  THE SHIM OF components (11), THE WALK OF FnComponentsMatchMutualReachability (3).
-/
import Derived.Test.Qxb6600486aComps
import Derived.Test.Qxb6600486aSame
set_option linter.unusedVariables false
set_option linter.unusedSimpArgs false
namespace Go.Proofs.Qxb6600486a
open Go.RowKit

theorem zzcomps_any (w : World) (fb gb n m : Nat) (A : Nat → Nat → Prop) (F G : Nat → Nat) (hR : Rows w fb gb n m F G) (hC : CSR n m A F G) (hA : ∀ u x, u < n → A u x → x < n) (hn : n ≤ 4096) (hm : m ≤ 4096) :
    Calls Try.prog 11 #[.slice (some ⟨fb, 0, none⟩) (n + 1) (n + 1), .slice (some ⟨gb, 0, none⟩) m m] w fun e w' => ClsQ w n A e w' := by
  have hb : Below w.heap.size w (w.alloc (.cells #[.slice (some ⟨fb, 0, none⟩) (n + 1) (n + 1), .slice (some ⟨gb, 0, none⟩) m m] 47)) := (Below.refl _ _).alloc (Nat.le_refl _) _
  have hnew := heap_alloc_new w (.cells #[.slice (some ⟨fb, 0, none⟩) (n + 1) (n + 1), .slice (some ⟨gb, 0, none⟩) m m] 47)
  have hcall := comps_any (w.alloc (.cells #[.slice (some ⟨fb, 0, none⟩) (n + 1) (n + 1), .slice (some ⟨gb, 0, none⟩) m m] 47)) w.heap.size fb gb n m A F G (hR.below hb) hC hA hn hm
    (by rw [cell_of_row _ _ 0 _ 47 (0, 0) hnew]; rfl) (by rw [cell_of_row _ _ 1 _ 47 (0, 0) hnew]; rfl) (by simp)
  clear hR hC hA hnew
  go_enter Try.func11, Try.ntmps11
  go_wp2_with fail
  refine hcall.mono ?_
  rintro e w1 ⟨ov, K, cb, co, cc, ln, C, rfl, h1, h2, h3, h4, h5⟩
  have hs := hb.size
  have HQ : Hid (ClsQ w n A (.returned ov) w1) := ⟨ov, K, cb, co, cc, ln, C, rfl, h1, fun c hc => ⟨(h2 c hc).1, by have := (h2 c hc).2; omega, (h2 c hc).2.2⟩, fun b e => ⟨by have := (h3 b e).1; omega, (h3 b e).2⟩, h4, hb.trans (h5.mono hs)⟩
  clear h1 h2 h3 h4 h5 hcall hb hs
  go_wp2_with fail
  go_ret
  exact HQ.out

set_option maxRecDepth 100000 in
set_option maxHeartbeats 4000000 in
theorem fn3 (n : Int) (w : World) (B : Nat) (a : Option Addr) (l c : Nat) (E : Nat → Int) (hE : Ints w B a l E) (hB : B ≤ w.heap.size) :
    Calls Try.prog 3 #[.int .i64 n, .slice a l c] w fun e w' => e = .returned (.bool true) ∧ Below w.heap.size w w' := by
  have HE : Hid (Ints w B a l E) := hE
  clear hE
  go_enter Try.func3, Try.ntmps3
  go_wp2_with fail
  refine (bytes8 w _ a l c).mono ?_
  rintro e w1 ⟨b1, rfl, m1, hw1⟩
  have H1 : Hid (Below w.heap.size w w1) := by rw [hw1]; exact below_drewN (Below.refl _ _) _
  clear hw1
  cases b1
  case false =>
    go_wp2_with fail
    go_ret
    exact ⟨rfl, H1.out⟩
  by_cases h1 : (8192 : Int) < (l : Int)
  · go_wp2_with fail
    go_ret
    exact ⟨rfl, H1.out⟩
  by_cases h2 : n < 0
  · go_wp2_with fail
    go_ret
    exact ⟨rfl, H1.out⟩
  by_cases h3 : (4096 : Int) < n
  · go_wp2_with fail
    go_ret
    exact ⟨rfl, H1.out⟩
  obtain ⟨k, rfl⟩ : ∃ k : Nat, n = k := ⟨n.toNat, by omega⟩
  have hk : k ≤ 4096 := by omega
  have hl : l ≤ 8192 := by omega
  go_wp2_with fail
  refine (ends_any w1 B k a l c E (HE.out.below H1.out hB) hl).mono ?_
  rintro e w2 ⟨b2, rfl, hend, m2, hw2⟩
  have H2 : Hid (Below w.heap.size w w2) := by rw [hw2]; exact below_drewN H1.out _
  clear hw2 H1
  cases b2
  case false =>
    clear hend
    go_wp2_with fail
    go_ret
    exact ⟨rfl, H2.out⟩
  obtain ⟨m, hm⟩ : ∃ m, m = l / 2 := ⟨_, rfl⟩
  have hm2 : m ≤ 4096 := by omega
  have hsx : ∀ i, i < m → E (2 * i) = ((E (2 * i)).toNat : Nat) ∧ (E (2 * i)).toNat < k := fun i hi => by have := hend rfl i (by omega); omega
  have hsy : ∀ i, i < m → E (2 * i + 1) = ((E (2 * i + 1)).toNat : Nat) ∧ (E (2 * i + 1)).toNat < k := fun i hi => by have := hend rfl i (by omega); omega
  obtain ⟨sx, hsxe⟩ : ∃ sx : Nat → Nat, sx = fun i => (E (2 * i)).toNat := ⟨_, rfl⟩
  obtain ⟨sy, hsye⟩ : ∃ sy : Nat → Nat, sy = fun i => (E (2 * i + 1)).toNat := ⟨_, rfl⟩
  have hsx' : ∀ i, i < m → E (2 * i) = sx i ∧ sx i < k := by rw [hsxe]; exact hsx
  have hsy' : ∀ i, i < m → E (2 * i + 1) = sy i ∧ sy i < k := by rw [hsye]; exact hsy
  have call1 := csr_false w2 B k m l c a sx sy E (HE.out.below H2.out hB) (Nat.le_trans hB H2.out.size) hl hm hk hsx' hsy'
  have HX : Hid ((∀ i, i < m → E (2 * i) = sx i ∧ sx i < k) ∧ (∀ i, i < m → E (2 * i + 1) = sy i ∧ sy i < k) ∧ m = l / 2) := ⟨hsx', hsy', hm⟩
  clear hsx hsy hsx' hsy' hsxe hsye hend hm
  go_wp2_with fail
  refine call1.mono ?_
  clear call1
  rintro e w3 ⟨fb, gb, F, G, rfl, hR, hC, hb3⟩
  have H3 : Hid (Below w.heap.size w w3 ∧ Rows w3 fb gb k m F G ∧ CSR k m (Adj m sx sy) F G) := ⟨H2.out.trans (hb3.mono H2.out.size), hR, hC⟩
  clear hR hC hb3 H2
  have call2 := csr_true w3 B k m l c a sx sy E (HE.out.below H3.out.1 hB) (Nat.le_trans hB H3.out.1.size) hl HX.out.2.2 hk HX.out.1 HX.out.2.1
  go_wp2_with fail
  refine call2.mono ?_
  clear call2
  rintro e w4 ⟨fb', gb', F', G', rfl, hR, hC, hb4⟩
  have hA : ∀ u x, u < k → Adj m sx sy u x → x < k := fun u x _ ⟨i, hi, _, h2⟩ => by rw [← h2]; exact (HX.out.2.1 i hi).2
  have hA' : ∀ u x, u < k → Adj m sy sx u x → x < k := fun u x _ ⟨i, hi, _, h2⟩ => by rw [← h2]; exact (HX.out.1 i hi).2
  have call3 := zzcomps_any w4 fb gb k m (Adj m sx sy) F G (H3.out.2.1.below hb4) H3.out.2.2 hA hk hm2
  have call4 : Hid (∀ w5, Below w4.heap.size w4 w5 → Calls Try.prog 12 #[.int .i64 k, .slice (some ⟨fb, 0, none⟩) (k + 1) (k + 1), .slice (some ⟨gb, 0, none⟩) m m, .slice (some ⟨fb', 0, none⟩) (k + 1) (k + 1), .slice (some ⟨gb', 0, none⟩) m m] w5 fun e w' => ClsQ w5 k (Adj m sx sy) e w') := fun w5 hb5 =>
    classes_any w5 fb gb fb' gb' k m (Adj m sx sy) (Adj m sy sx) F G F' G' ((H3.out.2.1.below hb4).below hb5) H3.out.2.2 (hR.below hb5) hC hA hA' (fun u x => ⟨reach_rev, reach_rev⟩) hk hm2
  have H4 : Hid (Below w.heap.size w w4) := H3.out.1.trans (hb4.mono H3.out.1.size)
  clear hR hC hb4 H3 hA hA' HX HE
  obtain ⟨A, hAA⟩ : ∃ A, A = Adj m sx sy := ⟨_, rfl⟩
  rw [← hAA] at call3 call4
  clear hAA
  go_wp2_with fail
  refine call3.mono ?_
  clear call3
  rintro e w5 ⟨ov, K, cb, co, cc, ln, C, rfl, hout, hcls, hob, hCl, hb5⟩
  have H5 : Hid (Below w4.heap.size w4 w5 ∧ LL w5 ov K ln C ∧ Cls A k k K ln C) := ⟨hb5, ll_of (w' := w5) hout (fun c hc => (hcls c hc).1), hCl⟩
  clear hout hcls hob hCl hb5
  go_wp2_with fail
  refine (call4.out w5 H5.out.1).mono ?_
  rintro e w6 ⟨ov', K', cb', co', cc', ln', C', rfl, hout, hcls, hob, hCl, hb6⟩
  have hcallS : Hid (Calls Try.prog 13 #[ov, ov'] w6 fun e w' => e = .returned (.bool true) ∧ ∃ q, w' = w6.drewN q) := by
    obtain ⟨h1, h2, h3⟩ := H5.out
    have hu := h3.unique hCl
    obtain ⟨e1, e2⟩ := hu
    subst e1
    have hl2 := ll_of (w' := w6) hout (fun c hc => (hcls c hc).1)
    have hl3 : LL w6 ov' K ln C := by
      obtain ⟨oa, oc, e, h4⟩ := hl2.at_
      refine ⟨oa, oc, e, fun hK => ?_⟩
      obtain ⟨ob, oo, e3, h5⟩ := h4 hK
      refine ⟨ob, oo, e3, fun c hc => ?_⟩
      obtain ⟨b, o, cap, h6, h7⟩ := h5 c hc
      refine ⟨b, o, cap, by rw [(e2 c hc).1]; exact h6, ?_⟩
      rw [(e2 c hc).1]
      exact h7.congr fun i hi => by rw [(e2 c hc).2 i (by rw [(e2 c hc).1]; exact hi)]
    have hln : ∀ c, c < K → ln c ≤ 100000 := fun c hc => by have := (h3.lst c hc).le; omega
    exact same_any w6 ov ov' K ln C (h2.below hb6 (fun c hc => by have := h3.big c hc; omega)) hl3 (by have := h3.few; omega) hln
  have H6 : Hid (Below w.heap.size w w6) := by
    have h1 := H5.out.1
    have h4 := H4.out
    exact (h4.trans (h1.mono h4.size)).trans (hb6.mono (Nat.le_trans h4.size h1.size))
  clear hout hcls hob hCl hb6 call4 H5 H4
  go_wp2_with fail
  refine hcallS.out.mono ?_
  rintro e w7 ⟨rfl, q, hw7⟩
  have H7 : Hid (Below w.heap.size w w7) := by rw [hw7]; exact below_drewN H6.out _
  clear hw7 hcallS
  go_wp2_with fail
  go_ret
  exact ⟨rfl, H7.out⟩

end Go.Proofs.Qxb6600486a

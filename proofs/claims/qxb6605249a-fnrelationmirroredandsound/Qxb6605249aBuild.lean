/-
  THE WALK OF zzBuild.
-/
import Derived.Test.Qxb6605249aInput
import Derived.Deep.RegionHeld3
set_option linter.unusedVariables false
set_option linter.unusedSimpArgs false
namespace Go.Proofs.Qxb6605249a
open Go.RowKit

theorem bst_start {w w1 : World} {n keep : Nat} {J S : Nat → Nat} {m : Nat → Nat} {X Y : Nat → Nat → Nat} {e : Ending} (h : Newed w n keep e w1) : ∃ gb, e = .returned (.pointer (some ⟨gb, 0, none⟩)) ∧ ∃ g R, BSt w n keep J S m X Y gb 0 w1 g R := by
  obtain ⟨R, h1, h2, h3, h4, h5, h6⟩ := h
  exact ⟨R.gb, h1, g0 n keep, R, { built := rfl, gc := h2, gbe := rfl, base := h3, bel := h4, low := h5, high := h6 }⟩

theorem bst_step {w : World} {n keep : Nat} {J S : Nat → Nat} {m : Nat → Nat} {X Y : Nat → Nat → Nat} {gb i : Nat} {wr w1 : World} {g : GS} {R : Rep} (h : BSt w n keep J S m X Y gb i wr g R) {w0 : World} (hw0 : Below wr.heap.size wr w0) {l3 h3 : Nat → Nat}
    (hlh : l3 = upd (lh2 g (X i) (Y i) (lo1 g (X i) (Y i) (lo0 g (J i) (S i)) (m i)) (hi1 g (X i) (Y i) (hi0 g (J i) (S i)) (m i)) (m i)).1 (J i) (S i) ∧
      h3 = upd (lh2 g (X i) (Y i) (lo1 g (X i) (Y i) (lo0 g (J i) (S i)) (m i)) (hi1 g (X i) (Y i) (hi0 g (J i) (S i)) (m i)) (m i)).2 (J i) (S i))
    (ha : Added w0 R (newG g (J i) l3 h3) w1) : ∃ g R, BSt w n keep J S m X Y gb (i + 1) w1 g R := by
  obtain ⟨F, x, R', a1, a2, a3, a4, a5, a6, a7, a8⟩ := ha
  have hn := (built_base h.built).1
  have a7' : ∃ f, w1.rowIs R.lb 22 g.n f := a7
  have a8' : ∃ f, w1.rowIs R.hb 22 g.n f := a8
  rw [hn] at a7' a8'
  have hb : R.base ≤ wr.heap.size := by have := h.gc.rbase R.gb (by rw [h.gc.r1]; simp); have := h.gc.lgb; omega
  refine ⟨_, R', { built := ⟨g, h.built, l3, h3, F, x, hlh.1, hlh.2, rfl, a2, a3, a4⟩, gc := a1, gbe := a5.gb.trans h.gbe, base := a5.base.trans h.base, bel := ?_, low := by rw [a5.lb]; exact a7', high := by rw [a5.hb]; exact a8' }⟩
  have := (hw0.mono hb).trans a6
  rw [h.base] at this
  exact h.bel.trans this

set_option maxRecDepth 100000 in
set_option maxHeartbeats 2000000 in
theorem build_any (I : Inp) (n keep B : Nat) (J S : Nat → Nat) (X Y : Nat → Nat → Nat) (w : World) (hI : In w B I (fun i => (J i : Int)) S (fun i k => (X i k : Int)) Y) (hB : B ≤ w.heap.size)
    (hV : Valid n I.L J S I.bL X Y) (hq : ∀ i, i < I.L → I.qL i = I.bL i) (hm : ∀ i, i < I.L → I.bL i ≤ 1048576) (hn1 : 1 ≤ n) (hn2 : n ≤ 4096) (hL : I.L ≤ 4096) (hnL : n * (I.L + 1) ≤ 4194304) :
    Calls Try.prog 13 #[.int .i64 n, .int .u64 keep, I.js, I.seqs, I.bs, I.bq] w fun e w' => ∃ gb, e = .returned (.pointer (some ⟨gb, 0, none⟩)) ∧ ∃ g R, BSt w n keep J S I.bL X Y gb I.L w' g R := by
  obtain ⟨L, hLL⟩ : ∃ L, L = I.L := ⟨_, rfl⟩
  unfold Inp.js Inp.seqs Inp.bs Inp.bq
  rw [← hLL] at hL ⊢
  have HL : Hid (L = I.L) := hLL
  clear hLL
  go_enter Try.func13, Try.ntmps13
  go_wp2_with fail
  refine (new_any n keep hn2 w).mono ?_
  intro e w1 hnew
  obtain ⟨gb, rfl, hst⟩ := bst_start (J := J) (S := S) (m := I.bL) (X := X) (Y := Y) hnew
  clear hnew
  have HST : Hid (∃ g R, BSt w n keep J S I.bL X Y gb 0 w1 g R) := hst
  clear hst
  go_wp2_with fail
  go_loopg [14] L (fun gk t wr => ∃ i : Nat, i + gk = L ∧ t = .int .i64 i ∧ ∃ g R, BSt w n keep J S I.bL X Y gb i wr g R)
  case atStart => exact ⟨0, by omega, rfl, HST.out⟩
  case round =>
    clear HST
    obtain ⟨i, hi, rfl, g, R, hst⟩ := hrel
    by_cases hlt : i < L
    · have hlt2 : i < I.L := by rw [← HL.out]; exact hlt
      have hI2 := hI.below hst.bel hB
      have d0 := hI2.cJ i hlt2
      have d1 := hI2.cS i hlt2
      have d2 := hI2.cB i hlt2
      have d3 := hI2.cQ i hlt2
      rw [hq i hlt2] at d3
      have hlt' : (i : Int) < (L : Int) := by omega
      have hlt0 : (0 : Int) ≤ (i : Int) := by omega
      have HX : Hid (BSt w n keep J S I.bL X Y gb i wr g R ∧ In wr B I (fun i => (J i : Int)) S (fun i k => (X i k : Int)) Y) := ⟨hst, hI2⟩
      have hcall : Hid (∀ w0, Below wr.heap.size wr w0 → Calls Try.prog 31 #[.pointer (some ⟨gb, 0, none⟩), .int .i64 (J i), .int .u64 (S i), .slice (I.bA i) (I.bL i) (I.bC i), .slice (I.qA i) (I.bL i) (I.qC i)] w0 fun e w' => e = .returned (.tuple #[]) ∧ (∃ g R, BSt w n keep J S I.bL X Y gb (i + 1) w' g R) ∧ Below w.heap.size wr w') := by
        intro w0 hw0
        have bb := built_base hst.built
        have ok := built_ok hn1 hn2 hst.built
        obtain ⟨f1, hf1⟩ := hst.low
        obtain ⟨f2, hf2⟩ := hst.high
        rw [← bb.1] at hf1 hf2
        have hB2 : B ≤ w0.heap.size := Nat.le_trans hB (Nat.le_trans hst.bel.size hw0.size)
        have hI3 := hI2.below hw0 (Nat.le_trans hB hst.bel.size)
        have := zzadd_any g R w0 (J i) (S i) (I.bL i) (I.bC i) (I.qC i) (I.bA i) (I.qA i) (X i) (Y i) (hst.gc.below hw0) ok f1 f2 (hf1.of_block (hw0.block _ hf1.lt)) (hf2.of_block (hw0.block _ hf2.lt))
          (by rw [bb.1]; exact hV.j i hlt2) (by rw [bb.2.2.1]; have := HL.out; omega) (by
            rw [bb.1, bb.2.2.1]
            exact Nat.le_trans (Nat.mul_le_mul_left n (by omega)) hnL) (by rw [bb.2.2.2]; exact hV.s i hlt2) (hm i hlt2)
          ⟨fun h0 => by obtain ⟨b, o, h1, h2, h3⟩ := hI3.cX i hlt2 h0; exact ⟨b, o, h1, Nat.lt_of_lt_of_le h2 hB2, h3⟩⟩
          ⟨fun h0 => by obtain ⟨b, o, h1, h2, h3⟩ := hI3.cY i hlt2 (by rw [hq i hlt2]; exact h0); exact ⟨b, o, h1, Nat.lt_of_lt_of_le h2 hB2, fun k hk => h3 k (by rw [hq i hlt2]; exact hk)⟩⟩
          (fun k hk => by have := hV.x i hlt2 k hk; rw [bb.1, bb.2.2.2]; exact this)
        rw [hst.gbe] at this
        refine this.mono ?_
        rintro e w' ⟨he, l3, h3, hlh, ha⟩
        refine ⟨he, bst_step hst hw0 hlh ha, ?_⟩
        obtain ⟨F, x, R', _, _, _, _, _, a6, _⟩ := ha
        rw [hst.base] at a6
        exact (hw0.mono hst.bel.size).trans a6
      have lj := hI.bJ
      have ls := hI.bS
      have lb := hI.bB
      have lq := hI.bQ
      clear hst hI2 hI hV hq hm
      go_wp2_with fail
      go_region_held3 (fun w' => w'.cell? ⟨I.jb, I.jo + i, none⟩ = some (.int .i64 (J i)) ∧ w'.cell? ⟨I.sb, I.so + i, none⟩ = some (.int .u64 (S i)) ∧ w'.cell? ⟨I.bb, I.bo + i, none⟩ = some (.slice (I.bA i) (I.bL i) (I.bC i)) ∧ w'.cell? ⟨I.qb, I.qo + i, none⟩ = some (.slice (I.qA i) (I.bL i) (I.qC i)))
        (first
          | go_keep
          | (rw [hb2.cell (p := ⟨I.jb, I.jo + i, none⟩) (by exact Nat.lt_of_lt_of_le lj hB), hb2.cell (p := ⟨I.sb, I.so + i, none⟩) (by exact Nat.lt_of_lt_of_le ls hB), hb2.cell (p := ⟨I.bb, I.bo + i, none⟩) (by exact Nat.lt_of_lt_of_le lb hB), hb2.cell (p := ⟨I.qb, I.qo + i, none⟩) (by exact Nat.lt_of_lt_of_le lq hB)]; exact ⟨d0, d1, d2, d3⟩))
        ((go_at_call 31; refine (hcall.out _ (by exact (Below.refl _ _).drew)).mono ?_; rintro e w2 ⟨rfl, hst2, hb2⟩))
      have HST2 : Hid (∃ g R, BSt w n keep J S I.bL X Y gb (i + 1) w2 g R) := hst2
      clear hst2 hcall hb2 d0 d1 d2 d3
      go_wp2_with fail
      go_roundg (gk - 1)
      case measure => omega
      case rel => exact ⟨i + 1, by omega, by go_num, HST2.out⟩
    · have e : i = L := by omega
      subst e
      have HX : Hid (BSt w n keep J S I.bL X Y gb i wr g R) := hst
      clear hst hI hV
      go_wp2_with fail
      go_ret
      exact ⟨gb, rfl, g, R, HL.out ▸ HX.out⟩

end Go.Proofs.Qxb6605249a

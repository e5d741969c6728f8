/-
  THE WALK OF FnRelationMirroredAndSound.
-/
import Derived.Test.Qxb6605249aReady
import Derived.BigQuiet
import Derived.Deep.CutRange
import Derived.Deep.DeepCutAuto
set_option linter.unusedVariables false
set_option linter.unusedSimpArgs false
namespace Go.Proofs.Qxb6605249a
open Go.RowKit

set_option maxRecDepth 100000 in
set_option maxHeartbeats 4000000 in
theorem fn8 (n : Int) (keep : Nat) (w : World) (B : Nat) (ja sa ba qa : Option Addr) (jl jc sl sc bl bc ql qc : Nat) (J : Nat → Int) (S : Nat → Nat) (bA : Nat → Option Addr) (bL bC : Nat → Nat) (qA : Nat → Option Addr) (qL qC : Nat → Nat) (X : Nat → Nat → Int) (Y : Nat → Nat → Nat) (xs : Int) (xq : Nat) (ys : Int) (yq : Nat)
    (hA : Arg w B ja sa ba qa jl sl bl ql J S bA bL bC qA qL qC X Y) (hB : B ≤ w.heap.size) :
    Calls Try.prog 8 #[.int .i64 n, .int .u64 keep, .slice ja jl jc, .slice sa sl sc, .slice ba bl bc, .slice qa ql qc, .int .i64 xs, .int .u64 xq, .int .i64 ys, .int .u64 yq] w fun e w' => e = .returned (.bool true) ∧ Below w.heap.size w w' := by
  have HA : Hid (Arg w B ja sa ba qa jl sl bl ql J S bA bL bC qA qL qC X Y) := hA
  clear hA
  go_enter Try.func8, Try.ntmps8
  go_wp2_with fail
  refine (bytes27 w B _ _ _ _ _ _ ja sa ba qa jl jc sl sc bl bc ql qc bA qA bL bC qL qC HA.out.cB HA.out.cQ).mono ?_
  rintro e w1 ⟨b1, rfl, m1, hw1⟩
  have H1 : Hid (Below w.heap.size w w1) := by rw [hw1]; exact below_drewN (Below.refl _ _) _
  clear hw1
  cases b1
  case false =>
    go_wp2_with fail
    go_ret
    exact ⟨rfl, H1.out⟩
  go_wp2_with fail
  refine (bytesB1 w1 B ja sa ba qa jl jc sl sc bl bc ql qc bA qA bL bC qL qC (HA.out.below H1.out hB).cB (HA.out.below H1.out hB).cQ).mono ?_
  rintro e w2 ⟨r, rfl, hr, m2, hw2⟩
  have H2 : Hid (Below w.heap.size w w2 ∧ (r ≤ 1048576 → (∀ i, i < bl → bL i ≤ 1048576) ∧ ∀ i, i < ql → qL i ≤ 1048576)) := ⟨by rw [hw2]; exact below_drewN H1.out _, hr⟩
  clear hw2 hr H1
  by_cases hr2 : (1048576 : Int) < (r : Int)
  · go_wp2_with fail
    go_ret
    exact ⟨rfl, H2.out.1⟩
  have H3 : Hid ((∀ i, i < bl → bL i ≤ 1048576) ∧ ∀ i, i < ql → qL i ≤ 1048576) := H2.out.2 (by omega)
  go_wp2_with fail
  refine (shape_any n w2 B ja sa ba qa jl jc sl sc bl bc ql qc J S bA bL bC qA qL qC X Y (HA.out.below H2.out.1 hB) (Nat.le_trans hB H2.out.1.size) H3.out.1 H3.out.2).mono ?_
  rintro e w3 ⟨b3, rfl, hf, hb3⟩
  have H4 : Hid (Below w.heap.size w w3 ∧ (b3 = true → Fits n jl sl bl ql J S bL qL X Y)) := ⟨H2.out.1.trans (hb3.mono H2.out.1.size), hf⟩
  clear hf hb3 H2 hr2
  cases b3
  case false =>
    go_wp2_with fail
    go_ret
    exact ⟨rfl, H4.out.1⟩
  have H5 : Hid (Fits n jl sl bl ql J S bL qL X Y) := H4.out.2 rfl
  have hjl : jl ≤ 4096 := H5.out.2.2.1
  have hsl : sl = jl := H5.out.2.2.2.2.1
  subst hsl
  go_wp2_with fail
  refine (indexOf_any w3 B ja sa sl jc sc J S xs xq (HA.out.below H4.out.1 hB).cJ (HA.out.below H4.out.1 hB).cS hjl).mono ?_
  rintro e w4 ⟨ih, im, iw⟩
  have H6 : Hid (Below w.heap.size w w4) := by rw [iw]; exact below_drewN H4.out.1 _
  clear iw
  rcases ih with ⟨i, hi, hi1, hi2, rfl⟩ | rfl
  case inr =>
    go_wp2_with fail
    refine (indexOf_any w4 B ja sa sl jc sc J S ys yq (HA.out.below H6.out hB).cJ (HA.out.below H6.out hB).cS hjl).mono ?_
    rintro e w5 ⟨jh, jm, jw⟩
    have H7 : Hid (Below w.heap.size w w5) := by rw [jw]; exact below_drewN H6.out _
    clear jw
    rcases jh with ⟨j, hj, hj1, hj2, rfl⟩ | rfl
    · clear hj1 hj2
      go_wp2_with fail
      go_ret
      exact ⟨rfl, H7.out⟩
    · go_wp2_with fail
      go_ret
      exact ⟨rfl, H7.out⟩
  have HI : Hid (J i = xs ∧ S i = xq) := ⟨hi1, hi2⟩
  clear hi1 hi2
  go_wp2_with fail
  refine (indexOf_any w4 B ja sa sl jc sc J S ys yq (HA.out.below H6.out hB).cJ (HA.out.below H6.out hB).cS hjl).mono ?_
  rintro e w5 ⟨jh, jm, jw⟩
  have H7 : Hid (Below w.heap.size w w5) := by rw [jw]; exact below_drewN H6.out _
  clear jw
  clear H6
  rcases jh with ⟨j, hj, hj1, hj2, rfl⟩ | rfl
  case inr =>
    go_wp2_with fail
    go_ret
    exact ⟨rfl, H7.out⟩
  obtain ⟨hi1, hi2⟩ := HI.out
  clear HI
  obtain ⟨k, I, J', X', hnk, e1, e2, e3, e4, e5, hJJ, hR⟩ := ready_of (HA.out.below H7.out hB) (Nat.le_trans hB H7.out.size) H5.out H3.out.1 (by omega) jc sc bc qc
  have HR : Hid (Ready w5 B k I J' S X' Y) := hR
  have hxs : xs = (J' i : Int) := by rw [← hi1]; exact hJJ i hi
  have hys : ys = (J' j : Int) := by rw [← hj1]; exact hJJ j hj
  subst hnk hi2 hj2 hxs hys
  have hiL : i < I.L := by rw [e5]; exact hi
  have hjL : j < I.L := by rw [e5]; exact hj
  have hiL' : (i : Int) < (I.L : Int) := by omega
  have HE : Hid (I.L = sl) := e5
  rw [← e1, ← e2, ← e3, ← e4]
  clear e1 e2 e3 e4 hR hJJ hi1 hj1 H5 H3 e5 HA
  obtain ⟨vj, hvj⟩ : ∃ v, v = I.js := ⟨_, rfl⟩
  obtain ⟨vs, hvs⟩ : ∃ v, v = I.seqs := ⟨_, rfl⟩
  obtain ⟨vb, hvb⟩ : ∃ v, v = I.bs := ⟨_, rfl⟩
  obtain ⟨vq, hvq⟩ : ∃ v, v = I.bq := ⟨_, rfl⟩
  rw [← hvj, ← hvs, ← hvb, ← hvq]
  have HV : Hid (vj = I.js ∧ vs = I.seqs ∧ vb = I.bs ∧ vq = I.bq) := ⟨hvj, hvs, hvb, hvq⟩
  have HB := HR.out.build keep
  rw [← hvj, ← hvs, ← hvb, ← hvq] at HB
  clear hvj hvs hvb hvq
  go_wp2_with fail
  refine HB.mono ?_
  clear HB
  rintro e w6 ⟨gb, rfl, ⟨g, R, hg⟩, hb6⟩
  have HG : Hid (Grf w6 k keep I J' S X' Y gb g R) := hg
  have HR6 : Hid (Ready w6 B k I J' S X' Y) := HR.out.below hb6
  have H8 : Hid (Below w.heap.size w w6) := H7.out.trans (hb6.mono H7.out.size)
  clear hg hb6 HR H7
  go_wp2_with fail
  refine (HG.out.zzrel HR6.out.hV hiL hjL).mono ?_
  rintro e w7a ⟨he7, hb7⟩
  have hlaw := HG.out.law.rel HR6.out.hV HG.out.ok HG.out.gn HG.out.cnt hiL hjL
  have hlaw2 := HG.out.law.rel HR6.out.hV HG.out.ok HG.out.gn HG.out.cnt hjL hiL
  obtain ⟨rr, hrr⟩ : ∃ r, r = relF g (J' i) (S i) (J' j) (S j) := ⟨_, rfl⟩
  obtain ⟨r2, hr2⟩ : ∃ r, r = relF g (J' j) (S j) (J' i) (S i) := ⟨_, rfl⟩
  rw [← hrr] at he7
  rw [← hrr, ← hr2] at hlaw
  rw [← hr2, ← hrr] at hlaw2
  subst he7
  have HL := (show Hid _ from hlaw)
  have HL2 := (show Hid _ from hlaw2)
  have HR7a : Hid (Ready w7a B k I J' S X' Y) := HR6.out.below hb7
  have HG7 : Hid (Grf w7a k keep I J' S X' Y gb g R) := HG.out.below hb7
  have H9a : Hid (Below w.heap.size w w7a) := H8.out.trans (hb7.mono H8.out.size)
  have HR2 : Hid (r2 = relF g (J' j) (S j) (J' i) (S i)) := hr2
  clear hb7 hlaw hlaw2 HR6 H8 HG hrr HE hr2
  go_wp2_with fail
  refine (HG7.out.zzrel HR7a.out.hV hjL hiL).mono ?_
  rintro e w7 ⟨he7, hb7⟩
  rw [← HR2.out] at he7
  subst he7
  have HR7 : Hid (Ready w7 B k I J' S X' Y) := HR7a.out.below hb7
  have H9 : Hid (Below w.heap.size w w7) := H9a.out.trans (hb7.mono H9a.out.size)
  clear hb7 HR7a HG7 H9a HR2
  go_wp2_with fail
  refine (mirrored_any rr r2 HL.out.1 HL2.out.1 w7).mono ?_
  rintro e w7b ⟨he, rfl⟩
  rw [HL.out.2.2.2.2] at he
  subst he
  clear HL2
  by_cases hij : i = j
  · have hr4 := HL.out.2.1.2 hij
    subst hr4
    have HN5 : Hid ((4 : Nat) ≠ 5) := (by decide : (4 : Nat) ≠ 5)
    have d1 : ((i : Int) == (j : Int)) = true := by simp [hij]
    have d2 : ((i : Int) != (j : Int)) = false := by simp [hij]
    have d3 : ((J' i : Int) == (J' j : Int)) = true := by simp [hij]
    clear hij
    have HP := HR7.out.pos
    rw [← HV.out.1] at HP
    go_wp2_with fail
    refine HP.mono ?_
    clear HP
    rintro e w8 ⟨rfl, hpt, hb8⟩
    have HR8 : Hid (Ready w8 B k I J' S X' Y) := HR7.out.below hb8
    have H10 : Hid (Below w.heap.size w w8) := H9.out.trans (hb8.mono H9.out.size)
    have HQ := HR8.out.rel hpt hiL hjL
    rw [← HV.out.1, ← HV.out.2.1, ← HV.out.2.2.1, ← HV.out.2.2.2] at HQ
    clear hpt hb8 HR7 H9
    go_wp2_with fail
    refine HQ.mono ?_
    clear HQ
    rintro e w9 ⟨r, rfl, hmr, hb9⟩
    have H11 : Hid (Below w.heap.size w w9) := H10.out.trans (hb9.mono H10.out.size)
    have hre : 4 = r := by
      rcases HL.out.2.2.2.1 r hmr with h | h
      · exact absurd h HN5.out
      · exact h
    subst hre
    have dz : (((4 : Nat) : Int) == ((4 : Nat) : Int)) = true := by simp
    clear hmr hb9 HR8 H10 HV HL HN5
    go_wp2_with fail
    go_ret
    exact ⟨rfl, H11.out⟩
  have hr4 : rr ≠ 4 := fun h => hij (HL.out.2.1.1 h)
  have d1 : ((i : Int) == (j : Int)) = false := by rw [beq_eq_false_iff_ne]; omega
  have d2 : ((i : Int) != (j : Int)) = true := by rw [bne_iff_ne]; omega
  have d4 : ((rr : Int) == 4) = false := by rw [beq_eq_false_iff_ne]; omega
  clear hij hr4
  by_cases hJ : J' i = J' j
  · have HN5 : Hid (rr ≠ 5) := fun h => (HL.out.2.2.1 h).1 hJ
    have d3 : ((J' i : Int) == (J' j : Int)) = true := by simp [hJ]
    have d5 : ((rr : Int) == 5) = false := by have := HN5.out; rw [beq_eq_false_iff_ne]; omega
    clear hJ
    have HP := HR7.out.pos
    rw [← HV.out.1] at HP
    go_wp2_with fail
    refine HP.mono ?_
    clear HP
    rintro e w8 ⟨rfl, hpt, hb8⟩
    have HR8 : Hid (Ready w8 B k I J' S X' Y) := HR7.out.below hb8
    have H10 : Hid (Below w.heap.size w w8) := H9.out.trans (hb8.mono H9.out.size)
    have HQ := HR8.out.rel hpt hiL hjL
    rw [← HV.out.1, ← HV.out.2.1, ← HV.out.2.2.1, ← HV.out.2.2.2] at HQ
    clear hpt hb8 HR7 H9
    go_wp2_with fail
    refine HQ.mono ?_
    clear HQ
    rintro e w9 ⟨r, rfl, hmr, hb9⟩
    have H11 : Hid (Below w.heap.size w w9) := H10.out.trans (hb9.mono H10.out.size)
    have hre : rr = r := by
      rcases HL.out.2.2.2.1 r hmr with h | h
      · exact absurd h HN5.out
      · exact h
    subst hre
    have dz : ((rr : Int) == (rr : Int)) = true := by simp
    clear hmr hb9 HR8 H10 HV HL HN5
    go_wp2_with fail
    go_ret
    exact ⟨rfl, H11.out⟩
  have d3 : ((J' i : Int) == (J' j : Int)) = false := by rw [beq_eq_false_iff_ne]; omega
  clear hJ
  by_cases h5 : rr = 5
  · have d5 : ((rr : Int) == 5) = true := by simp [h5]
    clear h5
    go_wp2_with fail
    go_ret
    exact ⟨rfl, H9.out⟩
  have HN5 : Hid (rr ≠ 5) := h5
  have d5 : ((rr : Int) == 5) = false := by rw [beq_eq_false_iff_ne]; omega
  clear h5
  have HP := HR7.out.pos
  rw [← HV.out.1] at HP
  go_wp2_with fail
  refine HP.mono ?_
  clear HP
  rintro e w8 ⟨rfl, hpt, hb8⟩
  have HR8 : Hid (Ready w8 B k I J' S X' Y) := HR7.out.below hb8
  have H10 : Hid (Below w.heap.size w w8) := H9.out.trans (hb8.mono H9.out.size)
  have HQ := HR8.out.rel hpt hiL hjL
  rw [← HV.out.1, ← HV.out.2.1, ← HV.out.2.2.1, ← HV.out.2.2.2] at HQ
  clear hpt hb8 HR7 H9
  go_wp2_with fail
  refine HQ.mono ?_
  clear HQ
  rintro e w9 ⟨r, rfl, hmr, hb9⟩
  have H11 : Hid (Below w.heap.size w w9) := H10.out.trans (hb9.mono H10.out.size)
  have hre : rr = r := by
    rcases HL.out.2.2.2.1 r hmr with h | h
    · exact absurd h HN5.out
    · exact h
  subst hre
  have dz : ((rr : Int) == (rr : Int)) = true := by simp
  clear hmr hb9 HR8 H10 HV HL HN5
  go_wp2_with fail
  go_ret
  exact ⟨rfl, H11.out⟩

end Go.Proofs.Qxb6605249a

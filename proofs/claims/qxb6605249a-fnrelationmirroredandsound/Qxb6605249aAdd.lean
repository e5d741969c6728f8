/-
  THE WALK OF add.
-/
import Derived.Test.Qxb6605249aAddParts
import Derived.Deep.RegionLaw
import Derived.Deep.RegionHeld3
set_option linter.unusedVariables false
set_option linter.unusedSimpArgs false
namespace Go.Proofs.Qxb6605249a
open Go.RowKit

set_option maxRecDepth 100000 in
set_option maxHeartbeats 2000000 in
theorem add_any (g : GS) (R : Rep) (w : World) (j seq m bb : Nat) (S Q : Nat → Nat) (h : GC w R g) (ok : GOk g) (f1 f2 : Nat → Value) (hl : w.rowIs R.lb 22 g.n f1) (hh : w.rowIs R.hb 22 g.n f2)
    (hj : j < g.n) (hdl : g.del + 1 ≤ 4096) (hdn : g.n * (g.del + 1) ≤ 4194304) (hseq : seq = g.cnt j + 1) (hbb : bb < w.heap.size) (hr : (R.role bb).1 = 0) (hm : m ≤ 1048576)
    (hbar : ∀ i, i < m → w.cell? ⟨bb, i * 2, none⟩ = some (.int .i64 (S i)) ∧ w.cell? ⟨bb, i * 2 + 1, none⟩ = some (.int .u64 (Q i)))
    (hval : ∀ i, i < m → S i < g.n ∧ 1 ≤ Q i ∧ Q i ≤ g.cnt (S i)) :
    Calls Try.prog 36 #[.pointer (some ⟨R.gb, 0, none⟩), .int .i64 j, .int .u64 seq, .slice (some ⟨bb, 0, none⟩) m m] w fun e w' => e = .returned (.tuple #[]) ∧ ∃ l3 h3, (l3 = upd (lh2 g S Q (lo1 g S Q (lo0 g j seq) m) (hi1 g S Q (hi0 g j seq) m) m).1 j seq ∧ h3 = upd (lh2 g S Q (lo1 g S Q (lo0 g j seq) m) (hi1 g S Q (hi0 g j seq) m) m).2 j seq) ∧ Added w R (newG g j l3 h3) w' := by
  have n1 := ok.n1
  have n2 := ok.n2
  have q6 := h.g6
  have q7 := h.g7
  have hsq : seq ≤ 4097 := by have := ok.c1 j hj; have := ok.d1; omega
  have HS : Hid (seq = g.cnt j + 1) := hseq
  clear hseq
  go_enter Try.func36, Try.ntmps36
  go_wp2
  go_quiet (fail)
  obtain ⟨w1, hr1, hl1, hg1⟩ := run_clear_row (w := w.drewN nq) 0 R.lb g.n g.n n1 f1 hl
  obtain ⟨w2, hr2, hl2, hg2⟩ := run_clear_row (w := w1) 0 R.hb g.n g.n n1 f2 (hh.of_block (hg1.block _ hh.lt (by simpa using Ne.symm h.nlh)))
  have HA : Hid (AR w R g bb (fun _ => 0) (fun _ => 0) w2) :=
    have A0 : AR w R g bb (fun _ => 0) (fun _ => 0) w2 :=
      { gc := (h.keep (w' := w.drewN nq) (Nat.le_refl _) (fun _ _ _ _ => rfl)).grown hg1 (by rw [h.r3]; simp) |>.grown hg2 (by rw [h.r4]; simp)
        low := hl1.of_block (hg2.block _ hl1.lt (by simpa using h.nlh)), high := hl2
        bel := ((below_drewN (Below.refl _ _) nq).grown hg1 (by have := h.rbase R.gb (by rw [h.r1]; simp); have := h.lgb; simp; omega) (fun k hk => by cases hk; exact h.rbase R.lb (by rw [h.r3]; simp))).grown hg2
          (by have := h.rbase R.gb (by rw [h.r1]; simp); have := h.lgb; have := hg1.size; simp at this; omega) (fun k hk => by cases hk; exact h.rbase R.hb (by rw [h.r4]; simp))
        bar := (hg2.block bb (Nat.lt_of_lt_of_le hbb hg1.size) (fun e => by cases e; rw [h.r4] at hr; simp at hr)).trans (hg1.block bb hbb (fun e => by cases e; rw [h.r3] at hr; simp at hr)) }
    A0
  clear hl1 hl2 hg1 hg2 h hl hh q6 q7
  go_upto_if 28 with fail
  clear hr1 hr2
  go_cut [] (fun wc => AR w R g bb (lo0 g j seq) (hi0 g j seq) wc)
  case first =>
    by_cases hs1 : 1 < seq
    · have hs1' : (1 : Int) < (seq : Int) := by omega
      have hk1 : g.first j ≤ seq - 1 := by have := HS.out; have := ok.f2 j hj (by omega); omega
      have hk2 : seq - 1 ≤ g.cnt j := by have := HS.out; omega
      obtain ⟨w3, hw3⟩ : ∃ w3, w3 = w2.alloc (.cells #[.int .i64 (j : Int), .int .u64 ((seq : Int) - 1)] 50) := ⟨_, rfl⟩
      have A3 : AR w R g bb (fun _ => 0) (fun _ => 0) w3 := by rw [hw3]; exact HA.out.below ((Below.refl _ _).alloc (Nat.le_refl _) _) hbb
      have z0 : ∀ wx, Below w3.heap.size w3 wx → wx.cell? ⟨w2.heap.size, 0, none⟩ = some (.int .i64 j) := fun wx hx => by
        rw [hx.cell (p := ⟨w2.heap.size, 0, none⟩) (by rw [hw3]; simp), hw3]; simp
      have z1 : ∀ wx, Below w3.heap.size w3 wx → wx.cell? ⟨w2.heap.size, 1, none⟩ = some (.int .u64 ((seq : Int) - 1)) := fun wx hx => by
        rw [hx.cell (p := ⟨w2.heap.size, 1, none⟩) (by rw [hw3]; simp), hw3]; simp
      go_wp2_with fail
      rw [← hw3]
      refine (lower_i A3.gc ok (q := seq - 1) (by omega) hj hk1 hk2).mono ?_
      rintro e w4 ⟨rfl, hb4⟩
      obtain ⟨w5, hr5, A5, g5⟩ := copy_low (A3.below hb4 hbb) ok hj hk1 hk2 hbb hr 3
      have llb : R.lb < w2.heap.size := HA.out.low.lt
      have l4 : w2.heap.size < w4.heap.size := by have := hb4.size; rw [hw3] at this; simp at this; omega
      have y0 : w5.cell? ⟨w2.heap.size, 0, none⟩ = some (.int .i64 j) := by rw [g5.cell_far _ l4 (by simp; omega)]; exact z0 w4 hb4
      have y1 : w5.cell? ⟨w2.heap.size, 1, none⟩ = some (.int .u64 ((seq : Int) - 1)) := by rw [g5.cell_far _ l4 (by simp; omega)]; exact z1 w4 hb4
      have HA3 : Hid (AR w R g bb (g.L j (seq - 1)) (fun _ => 0) w5) := A5
      clear hw3 A3 A5 g5 hb4 z0 z1
      go_wp2_with fail
      clear hr5
      refine (upper_i HA3.out.gc ok (q := seq - 1) (by omega) hj hk1 hk2).mono ?_
      rintro e w6 ⟨rfl, hb6⟩
      obtain ⟨w7, hr7, A7⟩ := copy_up (HA3.out.below hb6 hbb) ok hj hk1 hk2 hbb hr 3
      have HA7 : Hid (AR w R g bb (g.L j (seq - 1)) (g.U j (seq - 1)) w7) := A7
      clear hb6 A7
      go_wp2_with fail
      go_meet
      case rel =>
        have : lo0 g j seq = g.L j (seq - 1) := by funext k; simp [lo0, hs1]
        rw [this]
        have : hi0 g j seq = g.U j (seq - 1) := by funext k; simp [hi0, hs1]
        rw [this]
        exact HA7.out
    · go_wp2
      go_meet
      case rel =>
        have : lo0 g j seq = fun _ => 0 := by funext k; simp [lo0, hs1]
        rw [this]
        have : hi0 g j seq = fun _ => 0 := by funext k; simp [hi0, hs1]
        rw [this]
        exact HA.out
  case rest =>
    go_wp2
    have HC : Hid (AR w R g bb (lo0 g j seq) (hi0 g j seq) wc) := hcut
    clear hcut HA
    go_loopg [45] m (fun gk t wr => ∃ i : Nat, i + gk = m ∧ t = .int .i64 i ∧ AR w R g bb (lo1 g S Q (lo0 g j seq) i) (hi1 g S Q (hi0 g j seq) i) wr)
    case atStart => exact ⟨0, by omega, rfl, HC.out⟩
    case round =>
      clear HC
      obtain ⟨i, hi, rfl, hA⟩ := hrel
      by_cases hlt : i < m
      · obtain ⟨hS, hQ1, hQ2⟩ := hval i hlt
        have b0 : wr.cell? ⟨bb, i * 2, none⟩ = some (.int .i64 (S i)) := cell_keep hA.bar (hbar i hlt).1
        have b1 : wr.cell? ⟨bb, i * 2 + 1, none⟩ = some (.int .u64 (Q i)) := cell_keep hA.bar (hbar i hlt).2
        have hlt' : (i : Int) < (m : Int) := by omega
        obtain ⟨wA, hwA⟩ : ∃ wA, wA = wr.alloc (.cells #[.int .i64 (S i : Int), .int .u64 (Q i : Int)] 50) := ⟨_, rfl⟩
        have AA : AR w R g bb (lo1 g S Q (lo0 g j seq) i) (hi1 g S Q (hi0 g j seq) i) wA := by rw [hwA]; exact hA.below ((Below.refl _ _).alloc (Nat.le_refl _) _) hbb
        have EA : ES R wr.heap.size (S i) (Q i) wA := by rw [hwA]; exact ES.made hA.gc (S i) (Q i)
        have HN : Hid (wA = wr.alloc (.cells #[.int .i64 (S i : Int), .int .u64 (Q i : Int)] 50)) := hwA
        clear hwA hA hval hbar
        go_wp2_with fail
        rw [← HN.out]
        refine (kept_g AA.gc hS (Q i)).mono ?_
        rintro e w1 ⟨rfl, hb1⟩
        have A1 := AA.below hb1 hbb
        have E1 := EA.below hb1
        clear b0 b1 hb1 AA EA HN
        by_cases hk : g.first (S i) ≤ Q i
        · have c0 := E1.c0
          have c1 := E1.c1
          go_wp2_with fail
          refine (lower_g A1.gc ok hS hk hQ2).mono ?_
          rintro e w2 ⟨rfl, hb2⟩
          have A2 := A1.below hb2 hbb
          have E2 := E1.below hb2
          clear c0 c1 A1 E1 hb2
          go_wp2_with fail
          refine (raise_low A2 ok hS hk hQ2 hbb hr).mono ?_
          rintro e w3 ⟨rfl, A3, g3⟩
          have E3 := E2.grown g3 (by rw [A2.gc.r3]; simp)
          have c0 := E3.c0
          have c1 := E3.c1
          clear A2 E2 g3
          go_wp2_with fail
          refine (upper_g A3.gc ok hS hk hQ2).mono ?_
          rintro e w4 ⟨rfl, hb4⟩
          have A4 := A3.below hb4 hbb
          clear c0 c1 A3 E3 hb4
          go_wp2_with fail
          refine (raise_up A4 ok hS hk hQ2 hbb hr).mono ?_
          rintro e w5 ⟨rfl, A5, g5⟩
          clear A4 g5
          go_wp2_with fail
          go_roundg (gk - 1)
          case measure => omega
          case rel =>
            refine ⟨i + 1, by omega, by go_num, ?_⟩
            rw [lo1, hi1, if_pos hk, if_pos hk]
            exact A5
        · go_wp2_with fail
          go_roundg (gk - 1)
          case measure => omega
          case rel =>
            refine ⟨i + 1, by omega, by go_num, ?_⟩
            rw [lo1, hi1, if_neg hk, if_neg hk]
            exact A1
      · have e : i = m := by omega
        subst e
        have HC : Hid (AR w R g bb (lo1 g S Q (lo0 g j seq) i) (hi1 g S Q (hi0 g j seq) i) wr) := hA
        clear hA
        go_wp2
        obtain ⟨lo, hlo⟩ : ∃ lo, lo = lo1 g S Q (lo0 g j seq) i := ⟨_, rfl⟩
        obtain ⟨hig, hhi⟩ : ∃ hig, hig = hi1 g S Q (hi0 g j seq) i := ⟨_, rfl⟩
        rw [← hlo, ← hhi] at HC
        have HN : Hid (lo = lo1 g S Q (lo0 g j seq) i ∧ hig = hi1 g S Q (hi0 g j seq) i) := ⟨hlo, hhi⟩
        clear hlo hhi
        go_loopg [65] i (fun gk t wr => ∃ k : Nat, k + gk = i ∧ t = .int .i64 k ∧ AR w R g bb (lh2 g S Q lo hig k).1 (lh2 g S Q lo hig k).2 wr)
        case atStart => exact ⟨0, by omega, rfl, HC.out⟩
        case round =>
          clear HC
          obtain ⟨k, hk, rfl, hA⟩ := hrel
          by_cases hlt : k < i
          · obtain ⟨hS, hQ1, hQ2⟩ := hval k hlt
            have b0 : wr.cell? ⟨bb, k * 2, none⟩ = some (.int .i64 (S k)) := cell_keep hA.bar (hbar k hlt).1
            have b1 : wr.cell? ⟨bb, k * 2 + 1, none⟩ = some (.int .u64 (Q k)) := cell_keep hA.bar (hbar k hlt).2
            have hlt' : (k : Int) < (i : Int) := by omega
            have hS' : (S k : Int) < (g.n : Int) := by omega
            obtain ⟨ar, bc, hab⟩ : ∃ ar bc, ar = (lh2 g S Q lo hig k).1 ∧ bc = (lh2 g S Q lo hig k).2 := ⟨_, _, rfl, rfl⟩
            rw [← hab.1, ← hab.2] at hA
            have HAB : Hid (ar = (lh2 g S Q lo hig k).1 ∧ bc = (lh2 g S Q lo hig k).2) := hab
            clear hab
            obtain ⟨wA, hwA⟩ : ∃ wA, wA = wr.alloc (.cells #[.int .i64 (S k : Int), .int .u64 (Q k : Int)] 50) := ⟨_, rfl⟩
            have AA : AR w R g bb ar bc wA := by rw [hwA]; exact hA.below ((Below.refl _ _).alloc (Nat.le_refl _) _) hbb
            have EA : ES R wr.heap.size (S k) (Q k) wA := by rw [hwA]; exact ES.made hA.gc (S k) (Q k)
            have HNA : Hid (wA = wr.alloc (.cells #[.int .i64 (S k : Int), .int .u64 (Q k : Int)] 50)) := hwA
            clear hwA hA hval hbar
            go_wp2_with fail
            rw [← HNA.out]
            clear b0 b1
            have c0 : ∀ x : Later wA, x.val.cell? ⟨wr.heap.size, 0, none⟩ = some (.int .i64 (S k)) := fun x => (EA.below x.below).c0
            have c1 : ∀ x : Later wA, x.val.cell? ⟨wr.heap.size, 1, none⟩ = some (.int .u64 (Q k)) := fun x => (EA.below x.below).c1
            have c2 : ∀ x : Later wA, x.val.cell? ⟨R.lb, S k, none⟩ = some (.int .u64 (ar (S k))) := fun x => (AA.below x.below hbb).low.cell hS
            have hne : Nonempty (Later wA) := ⟨⟨wA, Below.refl _ _⟩⟩
            by_cases hkp : g.first (S k) ≤ Q k
            · refine wp_region_later_lit (by kernel_rfl) (by kernel_rfl) ?_
              repeat (go_big_quiet_step ((go_at_call 37; exact later_of (kept_t (AA.gc.below (Later.below _)) hS hkp))))
              refine wpQuiet_nil ?_
              intro x
              have A1 := AA.below x.below hbb
              clear c0 c1 c2
              go_wp2_with fail
              go_roundg (gk - 1)
              case measure => omega
              case rel =>
                refine ⟨k + 1, by omega, by go_num, ?_⟩
                rw [lh2, if_pos (.inl hkp), ← HAB.out.1, ← HAB.out.2]
                exact A1
            · by_cases hle : Q k ≤ ar (S k)
              · have hd : decide ((Q k : Int) ≤ (ar (S k) : Int)) = true := by simpa using hle
                refine wp_region_later_lit (by kernel_rfl) (by kernel_rfl) ?_
                repeat (go_big_quiet_step ((go_at_call 37; exact later_of (kept_f (AA.gc.below (Later.below _)) hS hkp))))
                refine wpQuiet_nil ?_
                intro x
                have A1 := AA.below x.below hbb
                clear c0 c1 c2
                go_wp2_with fail
                go_roundg (gk - 1)
                case measure => omega
                case rel =>
                  refine ⟨k + 1, by omega, by go_num, ?_⟩
                  rw [lh2, if_pos (.inr (by rw [← HAB.out.1]; exact hle)), ← HAB.out.1, ← HAB.out.2]
                  exact A1
              · have hd : decide ((Q k : Int) ≤ (ar (S k) : Int)) = false := by simpa using hle
                refine wp_region_later_lit (by kernel_rfl) (by kernel_rfl) ?_
                repeat (go_big_quiet_step ((go_at_call 37; exact later_of (kept_f (AA.gc.below (Later.below _)) hS hkp))))
                refine wpQuiet_nil ?_
                intro x
                have A1 := AA.below x.below hbb
                have E1 := EA.below x.below
                clear c0 c1 c2 AA EA hd
                obtain ⟨wx, hwx⟩ : ∃ wx, wx = x.val := ⟨_, rfl⟩
                rw [← hwx] at A1 E1 ⊢
                clear hwx hne
                have c0 := E1.c0
                have c1 := E1.c1
                have c2 : wx.cell? ⟨R.hb, S k, none⟩ = some (.int .u64 (bc (S k))) := A1.high.cell hS
                go_wp2_with fail
                refine (oldest_g A1.gc hS).mono ?_
                rintro e w2 ⟨rfl, hb2⟩
                have A2 := A1.below hb2 hbb
                have E2 := E1.below hb2
                clear c0 c1 c2 A1 E1 hb2
                have hf1 : g.first (S k) ≤ g.cnt (S k) := ok.f2 _ hS (by omega)
                go_wp2_with fail
                refine (upper_g A2.gc ok hS (Nat.le_refl _) hf1).mono ?_
                rintro e w3 ⟨rfl, hb3⟩
                have A3 := A2.below hb3 hbb
                have E3 := E2.below hb3
                clear A2 E2 hb3
                go_wp2_with fail
                refine (raise_up A3 ok hS (Nat.le_refl _) hf1 hbb hr).mono ?_
                rintro e w4 ⟨rfl, A4, g4⟩
                have E4 := E3.grown g4 (by rw [A3.gc.r4]; simp)
                clear A3 E3 g4
                have c0 := E4.c0
                have c1 := E4.c1
                have c2 : w4.cell? ⟨R.hb, S k, none⟩ = some (u64 (max (bc (S k)) (g.U (S k) (g.first (S k)) (S k)))) := A4.high.cell hS
                have c3 := A4.high.frozen (S k)
                have c4 : w4.cell? ⟨R.lb, S k, none⟩ = some (.int .u64 (ar (S k))) := A4.low.cell hS
                have c5 := A4.low.frozen (S k)
                have ne1 : R.hb ≠ wr.heap.size := fun e => by have h1 := E4.r; rw [← e, A4.gc.r4] at h1; simp at h1
                have ne2 : wr.heap.size ≠ R.hb := Ne.symm ne1
                have ne3 : R.hb ≠ R.lb := Ne.symm A4.gc.nlh
                have ne4 : R.lb ≠ R.hb := A4.gc.nlh
                have HA4 : Hid (AR w R g bb ar (fun t => max (bc t) (g.U (S k) (g.first (S k)) t)) w4) := A4
                clear A4 E4
                by_cases hmx : bc (S k) < Q k
                all_goals
                  go_wp2_with fail
                  go_roundg (gk - 1)
                  case measure => omega
                  case rel =>
                    refine ⟨k + 1, by omega, by go_num, ?_⟩
                    rw [lh2, if_neg (by rw [← HAB.out.1]; omega), ← HAB.out.1, ← HAB.out.2]
                    have := HA4.out.two hbb hr (S k) (max (bc (S k)) (Q k)) (Q k)
                    first | (rw [Nat.max_eq_right (by omega)] at this ⊢; exact this) | (rw [Nat.max_eq_left (by omega)] at this ⊢; exact this)
          · have e : k = i := by omega
            subst e
            obtain ⟨l2, h2, hlh⟩ : ∃ l2 h2, l2 = (lh2 g S Q lo hig k).1 ∧ h2 = (lh2 g S Q lo hig k).2 := ⟨_, _, rfl, rfl⟩
            rw [← hlh.1, ← hlh.2] at hA
            have HLH : Hid (l2 = (lh2 g S Q lo hig k).1 ∧ h2 = (lh2 g S Q lo hig k).2) := hlh
            clear hlh hval hbar
            have d0 : wr.cell? ⟨R.lb, j, none⟩ = some (.int .u64 (l2 j)) := hA.low.cell hj
            have d1 : wr.cell? ⟨R.hb, j, none⟩ = some (.int .u64 (h2 j)) := hA.high.cell hj
            have d2 := hA.low.frozen j
            have d3 := hA.high.frozen j
            have ne3 : R.hb ≠ R.lb := Ne.symm hA.gc.nlh
            have ne4 : R.lb ≠ R.hb := hA.gc.nlh
            have hj' : (j : Int) < (g.n : Int) := by omega
            go_upto_region 24 with fail
            obtain ⟨w0, hw0⟩ : ∃ w0, w0 = (wr.setCell ⟨R.lb, j, none⟩ (.int .u64 (seq : Int))).setCell ⟨R.hb, j, none⟩ (.int .u64 (seq : Int)) := ⟨_, rfl⟩
            rw [← hw0]
            have A0 : AR w R g bb (upd l2 j seq) (upd h2 j seq) w0 := by rw [hw0]; exact hA.two' hbb hr j seq seq
            obtain ⟨l3, hl3⟩ : ∃ l3, l3 = upd l2 j seq := ⟨_, rfl⟩
            obtain ⟨h3, hh3⟩ : ∃ h3, h3 = upd h2 j seq := ⟨_, rfl⟩
            rw [← hl3, ← hh3] at A0
            have HLH3 : Hid (l3 = upd l2 j seq ∧ h3 = upd h2 j seq) := ⟨hl3, hh3⟩
            clear d0 d1 d2 d3 ne3 ne4 hA hw0 hl3 hh3
            have q4 := A0.gc.g4
            have q2 := A0.gc.g2
            have z4 := A0.gc.gblk.frozen 4
            have dd := ok.d1
            have c1 := A0.gc.c1 j hj
            have ngc : R.gb ≠ R.cb := fun e => by have h1 := A0.gc.r1; have h2 := A0.gc.r2; rw [e, h2] at h1; simp at h1
            have ncg : R.cb ≠ R.gb := Ne.symm ngc
            go_upto_region 26 with fail
            clear q4 q2 z4 c1
            obtain ⟨wB, hwB⟩ : ∃ wB, wB = w0.setCell ⟨R.gb, 4, none⟩ (.int .u64 ((g.del : Int) + 1)) := ⟨_, rfl⟩
            rw [← hwB]
            have HwB : Hid (wB = w0.setCell ⟨R.gb, 4, none⟩ (.int .u64 ((g.del : Int) + 1))) := hwB
            have oth : ∀ b, b ≠ R.gb → wB.heap[b]? = w0.heap[b]? := fun b hb => by rw [hwB, heap_setCell_other _ _ _ _ (by simpa using hb)]
            have c1 : wB.cell? ⟨R.cb, j * 3 + 1, none⟩ = some (pv R g j) := cell_keep (oth R.cb ncg) (A0.gc.c1 j hj)
            have HV : AppV wB 22 (pv R g j) ((g.cnt j + 1 - g.first j) * g.n) (fun i => u64 (g.L j (g.first j + i / g.n) (i % g.n))) :=
              (A0.gc.pvApp ok hj).of_block (fun b hb => oth b (fun e => by
                unfold pv at hb
                split at hb
                · simp [Value.ownBlock] at hb
                · rename_i h0
                  simp [Value.ownBlock] at hb
                  have h6 := A0.gc.r6 j hj h0
                  rw [hb, e, A0.gc.r1] at h6; simp at h6))
            have HSr : Src Try.prog 1 24 (.slice (some ⟨R.lb, 0, none⟩) g.n g.n) g.n ((List.range g.n).map (fun k => u64 (l3 k))) wB :=
              src_seg Try.underlying24 ((rowIs_seg A0.low).of_block (oth R.lb (fun e => by have h3 := A0.gc.r3; rw [e, A0.gc.r1] at h3; simp at h3))) (fun _ _ => rfl)
            have pvne : (pv R g j).ownBlock ≠ some R.cb := fun hb => by
              unfold pv at hb
              split at hb
              · simp [Value.ownBlock] at hb
              · rename_i h0
                simp [Value.ownBlock] at hb
                have h6 := A0.gc.r6 j hj h0
                rw [hb, A0.gc.r2] at h6; simp at h6
            have lcbB : R.cb < wB.heap.size := by rw [hwB]; simp; exact A0.gc.lcb
            have blB : Blk wB R.cb 55 (g.n * 3) := A0.gc.cblk.of_block (oth R.cb ncg)
            obtain ⟨ln, hln⟩ : ∃ ln, ln = (g.cnt j + 1 - g.first j) * g.n := ⟨_, rfl⟩
            have hlnb : ln + g.n ≤ 4194304 := by
              have a1 := ok.c1 j hj
              have a2 := ok.f1 j hj
              have a3 : ln + g.n ≤ (g.del + 1) * g.n := by rw [hln]; exact idx_le (by omega)
              rw [Nat.mul_comm] at a3
              omega
            rw [← hln] at HV
            have HLN : Hid (ln = (g.cnt j + 1 - g.first j) * g.n) := hln
            clear hln hwB
            obtain ⟨pvv, hpvv⟩ : ∃ pvv, pvv = pv R g j := ⟨_, rfl⟩
            rw [← hpvv] at c1 HV pvne
            have HPV : Hid (pvv = pv R g j) := hpvv
            clear hpvv
            go_wp2_with (at_builtin; refine wpList_append_app rfl (.tmp 135) (.tmp 136) 24 rfl 22 (.int .u64 0) 8 Try.underlying24 Try.info22 rfl pvv rfl ln (fun i => u64 (g.L j (g.first j + i / g.n) (i % g.n))) HV _ rfl g.n ((List.range g.n).map (fun k => u64 (l3 k))) HSr n1 (by omega) (by omega) ?_; intro b1 o1 cp1 w2 hA1 hown1 hg1 hlt1; have k1 := cell_keep (hg1.block R.cb lcbB (Ne.symm pvne)) c1; have k2 := (blB.of_block (hg1.block R.cb lcbB (Ne.symm pvne))).frozen (j * 3 + 1))
            obtain ⟨wC, hwC⟩ : ∃ wC, wC = w2.setCell ⟨R.cb, j * 3 + 1, none⟩ (.slice (some ⟨b1, o1, none⟩) (ln + g.n) cp1) := ⟨_, rfl⟩
            rw [← hwC]
            have s2 : wB.heap.size ≤ w2.heap.size := hg1.size
            have lgbB : R.gb < wB.heap.size := by rw [HwB.out]; simp; exact A0.gc.lgb
            have pvne2 : pvv.ownBlock ≠ some R.gb := fun hb => by
              rw [HPV.out] at hb
              unfold pv at hb
              split at hb
              · simp [Value.ownBlock] at hb
              · rename_i h0
                simp [Value.ownBlock] at hb
                have h6 := A0.gc.r6 j hj h0
                rw [hb, A0.gc.r1] at h6; simp at h6
            have x1 : wC.cell? ⟨R.cb, j * 3 + 2, none⟩ = some (av R g j) := by
              rw [hwC, World.cell?_setCell_other _ _ _ _ (addr_ne (by omega))]
              refine cell_keep (hg1.block R.cb lcbB (Ne.symm pvne)) ?_
              exact cell_keep (oth R.cb ncg) (A0.gc.c2 j hj)
            have x2 : wC.cell? ⟨R.gb, 4, none⟩ = some (.int .u64 ((g.del : Int) + 1)) := by
              rw [hwC, World.cell?_setCell_other _ _ _ _ (fun e => ncg (congrArg Addr.block e))]
              refine cell_keep (hg1.block R.gb lgbB (Ne.symm pvne2)) ?_
              rw [HwB.out, World.cell?_setCell_same _ _ _ A0.gc.g4]
            have x3 : wC.frozen? ⟨R.cb, j * 3 + 2, none⟩ = false := by
              rw [hwC]
              exact ((blB.of_block (hg1.block R.cb lcbB (Ne.symm pvne))).set (j * 3 + 1) _).frozen _
            have lcbC : R.cb < wC.heap.size := by rw [hwC]; simp; omega
            have lgbC : R.gb < wC.heap.size := by rw [hwC]; simp; omega
            have HV2 : AppV wC 22 (av R g j) (g.cnt j + 1 - g.first j) (fun i => u64 (g.dn j (g.first j + i))) :=
              (A0.gc.avApp ok hj).of_block (fun b hb => by
                have hb7 : R.role b = (7, j) ∧ b < w0.heap.size := by
                  unfold av at hb
                  split at hb
                  · simp [Value.ownBlock] at hb
                  · rename_i h0
                    simp [Value.ownBlock] at hb
                    subst hb
                    exact ⟨A0.gc.r7 j hj h0, (A0.gc.ats j hj h0).lt⟩
                have e1 : b ≠ R.cb := fun e => by rw [e, A0.gc.r2] at hb7; simp at hb7
                have e2 : b ≠ R.gb := fun e => by rw [e, A0.gc.r1] at hb7; simp at hb7
                have e3 : pvv.ownBlock ≠ some b := fun hp => by
                  rw [HPV.out] at hp
                  unfold pv at hp
                  split at hp
                  · simp [Value.ownBlock] at hp
                  · rename_i h0
                    simp [Value.ownBlock] at hp
                    have h6 := A0.gc.r6 j hj h0
                    rw [hp, hb7.1] at h6; simp at h6
                rw [hwC, heap_setCell_other _ _ _ _ (by simpa using e1), hg1.block b (by rw [HwB.out]; simp; exact hb7.2) (Ne.symm e3)]
                exact oth b e2)
            have avne : (av R g j).ownBlock ≠ some R.cb := fun hb => by
              unfold av at hb
              split at hb
              · simp [Value.ownBlock] at hb
              · rename_i h0
                simp [Value.ownBlock] at hb
                have h6 := A0.gc.r7 j hj h0
                rw [hb, A0.gc.r2] at h6; simp at h6
            obtain ⟨l2n, hl2n⟩ : ∃ l2n, l2n = g.cnt j + 1 - g.first j := ⟨_, rfl⟩
            have hl2b : l2n ≤ 4097 := by have := ok.c1 j hj; omega
            obtain ⟨avv, havv⟩ : ∃ avv, avv = av R g j := ⟨_, rfl⟩
            rw [← hl2n, ← havv] at HV2
            rw [← havv] at x1 avne
            have HF : Hid (l2n = g.cnt j + 1 - g.first j ∧ avv = av R g j ∧ wC = w2.setCell ⟨R.cb, j * 3 + 1, none⟩ (.slice (some ⟨b1, o1, none⟩) (ln + g.n) cp1)
              ∧ App w2 22 b1 o1 (ln + g.n) cp1 (fun t => if t < ln then u64 (g.L j (g.first j + t / g.n) (t % g.n)) else ((List.range g.n).map (fun k => u64 (l3 k))).getD (t - ln) undef)
              ∧ (pv R g j).ownBlock = (pvv).ownBlock ∧ (pvv.ownBlock = some b1 ∨ b1 = wB.heap.size) ∧ wB.grownBy w2 pvv.ownBlock) := ⟨hl2n, havv, hwC, hA1, by rw [HPV.out], hown1, hg1⟩
            have bD : Below wC.heap.size wC (wC.alloc (.cells #[.int .u64 ((g.del : Int) + 1)] 22)).drew := ((Below.refl _ _).alloc (Nat.le_refl _) _).drew
            have HVD : AppV (wC.alloc (.cells #[.int .u64 ((g.del : Int) + 1)] 22)).drew 22 avv l2n (fun i => u64 (g.dn j (g.first j + i))) := HV2.of_block (fun b hb => bD.block b (by
              rcases HV2 with ⟨h1, _⟩ | ⟨b', o', c', h1, h2⟩
              · rw [h1] at hb; simp [Value.ownBlock] at hb
              · rw [h1] at hb; simp [Value.ownBlock] at hb; rw [← hb]; exact h2.lt))
            have HSD : Src Try.prog 1 24 (.slice (some ⟨wC.heap.size, 0, none⟩) 1 1) 1 [.int .u64 ((g.del : Int) + 1)] (wC.alloc (.cells #[.int .u64 ((g.del : Int) + 1)] 22)).drew :=
              Src.ofSlice _ Try.underlying24 ⟨wC.heap.size, 0, none⟩ 1 1 _ (by simp) (World.news_of_block (cs := #[.int .u64 ((g.del : Int) + 1)]) (t := 22) (fr := (0, 0)) (heap_alloc_new wC _)) (by simp [Value.oneCell'])
            have HXD : Hid ((wC.alloc (.cells #[.int .u64 ((g.del : Int) + 1)] 22)).drew.cell? ⟨R.cb, j * 3 + 2, none⟩ = some avv ∧ (wC.alloc (.cells #[.int .u64 ((g.del : Int) + 1)] 22)).drew.frozen? ⟨R.cb, j * 3 + 2, none⟩ = false ∧ R.cb < (wC.alloc (.cells #[.int .u64 ((g.del : Int) + 1)] 22)).drew.heap.size) :=
              ⟨cell_keep (bD.block R.cb lcbC) x1, (bD.frozen (p := ⟨R.cb, j * 3 + 2, none⟩) lcbC).trans x3, Nat.lt_of_lt_of_le lcbC bD.size⟩
            clear hl2n havv hwC hA1 hown1 hg1 k1 k2 c1 HV HSr pvne pvne2 oth blB hlt1 s2
            have HA0 : Hid (AR w R g bb l3 h3 w0) := A0
            clear A0 lcbB lgbB bD HV2
            go_cut [] (fun wc => ∃ R1, PR w R (newG g j l3 l3) l3 h3 wc R1 ∧ R1.M j (g.cnt j + 1) = none)
            case first =>
              go_region_law (refine step_append_app (by rfl) (.tmp 144) (.tmp 149) 24 (by rfl) 22 (.int .u64 0) 8 Try.underlying24 Try.info22 rfl avv (by rfl) l2n (fun i => u64 (g.dn j (g.first j + i))) (by exact HVD) _ (by rfl) 1 [.int .u64 ((g.del : Int) + 1)] (by exact HSD) (by omega) (by omega) (by omega) ?_; intro b2 o2 cp2 w4 hA2 hown2 hg2 hlt2; have y1 := cell_keep (hg2.block R.cb HXD.out.2.2 (Ne.symm avne)) HXD.out.1; have y2 := (hg2.frozen_far ⟨R.cb, j * 3 + 2, none⟩ HXD.out.2.2 (Ne.symm avne)).trans HXD.out.2.1)
              all_goals
                go_wp2_with fail
                go_meet
                case rel =>
                  obtain ⟨e1, e2, e3, a1, e4, a2, a3⟩ := HF.out
                  subst e1 e2
                  refine pr_of (ln := ln) (wB := wB) (w2 := w2) HA0.out ok hj HwB.out HLN.out a1 (by rw [e4]; exact a2) (by rw [e4]; exact a3) ?_ hA2 hown2 hg2
                  rw [← e3]
                  have : wC.heap.size = w2.heap.size := by rw [e3]; simp
                  rw [← this]
                  exact ((Below.refl _ _).alloc (Nat.le_refl _) _).drew
            case rest =>
              go_wp2_with fail
              obtain ⟨R1, hP, hMn⟩ := hcut
              rw [← HS.out] at hMn
              have HMn : Hid (R1.M j seq = none) := hMn
              clear hMn
              have HP : Hid (PR w R (newG g j l3 l3) l3 h3 wc R1) := hP
              have ok1 : GOk (newG g j l3 l3) := ok.newG hj l3 l3 hdl hdn
              clear HXD HSD HVD HF HA0 x1 x2 x3 lcbC lgbC avne HwB HLN HPV
              refine (equal_any R.lb 0 R.hb 0 g.n g.n g.n l3 h3 wc (rowIs_seg hP.low) (rowIs_seg hP.high) n2).mono ?_
              rintro e w6 ⟨rfl, mq, rfl⟩
              by_cases hsm : sameTo l3 h3 g.n = true
              · have P1 : PR w R (newG g j l3 h3) l3 h3 (wc.drewN mq) R1 := (hP.draw mq).same (sameTo_iff.1 hsm)
                have hf := forget_any (newG g j l3 h3) R1 (wc.drewN mq) P1.gc (ok.newG hj l3 h3 hdl hdn)
                rw [P1.rep.gb] at hf
                have HF : Hid (Calls Try.prog 43 #[.pointer (some ⟨R.gb, 0, none⟩)] (wc.drewN mq) fun e w' => e = .returned (.tuple #[]) ∧ FRel (newG g j l3 h3) R1 (wc.drewN mq) g.n w') := hf
                have HP1 : Hid (PR w R (newG g j l3 h3) l3 h3 (wc.drewN mq) R1) := P1
                clear hP hf P1 HP ok1
                go_wp2_with fail
                refine HF.out.mono ?_
                rintro e w8 ⟨rfl, hfr⟩
                have HFR : Hid (FRel (newG g j l3 h3) R1 (wc.drewN mq) g.n w8) := hfr
                clear hfr HF
                go_wp2_with fail
                go_end0
                exact ⟨rfl, l3, h3, by rw [← HN.out.1, ← HN.out.2, ← HLH.out.1, ← HLH.out.2]; exact HLH3.out, added HP1.out HFR.out⟩
              · have hsf : sameTo l3 h3 g.n = false := by simpa using hsm
                have e3 : wc.cell? ⟨R.gb, 3, none⟩ = some (.map (some R.mb)) := by have := hP.gc.g3; rw [hP.rep.gb, hP.rep.mb] at this; exact this
                have hM0 : MapIs wc R.mb R1.M := by have := hP.gc.map; rw [hP.rep.mb] at this; exact this
                have ngm : R.gb ≠ R.mb := fun e => by
                  have h1 := hP.gc.r1
                  have h2 := hP.gc.r5
                  rw [hP.rep.gb] at h1
                  rw [hP.rep.mb, ← e, h1] at h2
                  simp at h2
                go_wp2_with fail
                go_region_held3 (fun w' => w'.cell? ⟨R.gb, 3, none⟩ = some (.map (some R.mb)))
                  (first
                    | go_keep
                    | (rw [hb7.cell (p := ⟨R.gb, 3, none⟩) (by exact World.block_lt_of_cell? _ _ e3)]; assumption)
                    | (rw [hg8.cell_far ⟨R.gb, 3, none⟩ (World.block_lt_of_cell? _ _ (by assumption)) (by simpa using ngm)]; assumption))
                  ((go_at_call 42; refine (clone_any R.hb 0 g.n g.n h3 _ (by exact rowIs_seg hP.high) n1 n2 (by exact hP.high.lt)).mono ?_; rintro e w7 ⟨ub, uo, uc, rfl, hA7, hub7, hb7⟩; obtain ⟨w8, hr8, hM8, hg8⟩ := (hM0.of_block (w' := w7) (hb7.block R.mb hM0.lt)).storeRaw (s := j) (q := seq) (by omega) (by omega) HMn.out (.slice (some ⟨ub, uo, none⟩) g.n uc)))
                obtain ⟨R2, P2⟩ := (hP.draw (mq + 1)).mapped HS.out hb7 hA7 hub7 hM8 hg8
                have hf := forget_any (newG g j l3 h3) R2 w8 P2.gc (ok.newG hj l3 h3 hdl hdn)
                rw [P2.rep.gb] at hf
                have HF : Hid (Calls Try.prog 43 #[.pointer (some ⟨R.gb, 0, none⟩)] w8 fun e w' => e = .returned (.tuple #[]) ∧ FRel (newG g j l3 h3) R2 w8 g.n w') := hf
                have HP2 : Hid (PR w R (newG g j l3 h3) l3 h3 w8 R2) := P2
                clear hP hf P2 HP ok1 hM8 hg8 hb7 hA7 hr8 hM0 e3
                go_wp2_with fail
                refine HF.out.mono ?_
                rintro e w9 ⟨rfl, hfr⟩
                have HFR : Hid (FRel (newG g j l3 h3) R2 w8 g.n w9) := hfr
                clear hfr HF
                go_wp2_with fail
                go_end0
                exact ⟨rfl, l3, h3, by rw [← HN.out.1, ← HN.out.2, ← HLH.out.1, ← HLH.out.2]; exact HLH3.out, added HP2.out HFR.out⟩
end Go.Proofs.Qxb6605249a

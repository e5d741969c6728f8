/-
  THE WALKS OF in, relation AND THEIR SHIMS.
-/
import Derived.Test.Qxb6605249aAddParts
set_option linter.unusedVariables false
set_option linter.unusedSimpArgs false
namespace Go.Proofs.Qxb6605249a
open Go.RowKit

/-- What 'in' answers: x = (xs, xq) against y = (ys, yq). -/
def inF (g : GS) (xs xq ys yq : Nat) : Bool × Bool :=
  if xs = ys then (decide (xq < yq), true)
  else if g.first ys ≤ yq then
    if xq ≤ g.L ys yq xs then (true, true) else if g.U ys yq xs < xq then (false, true) else (false, false)
  else if g.U ys (g.first ys) xs < xq ∨ (g.first xs ≤ xq ∧ g.fgt < g.dn xs xq) then (false, true) else (false, false)

/-- A kept or forgotten message of the graph. -/
def Msg (g : GS) (s q : Nat) : Prop := s < g.n ∧ 1 ≤ q ∧ q ≤ g.cnt s

theorem ES.made2 {R : Rep} {g : GS} {wr : World} (h : GC wr R g) (s q s' q' : Nat) :
    ES R wr.heap.size s q ((wr.alloc (.cells #[.int .i64 (s : Int), .int .u64 (q : Int)] 50)).alloc (.cells #[.int .i64 (s' : Int), .int .u64 (q' : Int)] 50)) ∧
    ES R (wr.heap.size + 1) s' q' ((wr.alloc (.cells #[.int .i64 (s : Int), .int .u64 (q : Int)] 50)).alloc (.cells #[.int .i64 (s' : Int), .int .u64 (q' : Int)] 50)) := by
  have h1 := ES.made h s q
  have h2 := ES.made (h.below ((Below.refl _ _).alloc (Nat.le_refl _) (.cells #[.int .i64 (s : Int), .int .u64 (q : Int)] 50))) s' q'
  refine ⟨h1.below ((Below.refl _ _).alloc (Nat.le_refl _) _), ?_⟩
  simpa using h2

set_option maxRecDepth 100000 in
set_option maxHeartbeats 2000000 in
theorem in_any (g : GS) (R : Rep) (w : World) (xs xq ys yq : Nat) (h : GC w R g) (ok : GOk g) (hx : Msg g xs xq) (hy : Msg g ys yq) :
    Calls Try.prog 34 #[.pointer (some ⟨R.gb, 0, none⟩), .agg #[.int .i64 xs, .int .u64 xq], .agg #[.int .i64 ys, .int .u64 yq]] w fun e w' => e = .returned (.tuple #[.bool (inF g xs xq ys yq).1, .bool (inF g xs xq ys yq).2]) ∧ Below w.heap.size w w' := by
  obtain ⟨hx1, hx2, hx3⟩ := hx
  obtain ⟨hy1, hy2, hy3⟩ := hy
  have n2 := ok.n2
  obtain ⟨wA, hwA⟩ : ∃ wA, wA = (w.alloc (.cells #[.int .i64 (xs : Int), .int .u64 (xq : Int)] 50)).alloc (.cells #[.int .i64 (ys : Int), .int .u64 (yq : Int)] 50) := ⟨_, rfl⟩
  have bA : Below w.heap.size w wA := by rw [hwA]; exact ((Below.refl _ _).alloc (Nat.le_refl _) _).alloc (by simp) _
  have GA : GC wA R g := h.below bA
  have EX : ES R w.heap.size xs xq wA := by rw [hwA]; exact (ES.made2 h xs xq ys yq).1
  have EY : ES R (w.heap.size + 1) ys yq wA := by rw [hwA]; exact (ES.made2 h xs xq ys yq).2
  have HN : Hid (wA = (w.alloc (.cells #[.int .i64 (xs : Int), .int .u64 (xq : Int)] 50)).alloc (.cells #[.int .i64 (ys : Int), .int .u64 (yq : Int)] 50)) := hwA
  clear hwA
  by_cases hs : xs = ys
  · have hb : ((xs : Int) == (ys : Int)) = true := by simp [hs]
    have HS : Hid (xs = ys) := hs
    clear hs
    go_enter Try.func34, Try.ntmps34
    go_wp2
    go_ret2
    refine ⟨?_, ?_⟩
    · rw [inF, if_pos HS.out]; simp
    · rw [← HN.out]; exact bA
  · have hb : ((xs : Int) == (ys : Int)) = false := by simp; omega
    have HS : Hid (¬ xs = ys) := hs
    clear hs
    go_enter Try.func34, Try.ntmps34
    go_wp2_with fail
    rw [← HN.out]
    by_cases hk : g.first ys ≤ yq
    · refine (kept_t GA hy1 hk).mono ?_
      rintro e w1 ⟨rfl, hb1⟩
      have G1 := GA.below hb1
      have EX1 := EX.below hb1
      have EY1 := EY.below hb1
      have bb1 : Below w.heap.size w w1 := bA.trans (hb1.mono bA.size)
      clear GA EX EY bA hb1 HN
      obtain ⟨pb, po, pc, hlv⟩ : ∃ pb po pc, lowV R g ys yq = .slice (some ⟨pb, po, none⟩) g.n pc := ⟨_, _, _, rfl⟩
      have hlow : ∀ x : Later w1, Calls Try.prog 32 #[.pointer (some ⟨R.gb, 0, none⟩), .agg #[.int .i64 ys, .int .u64 yq]] x.val fun e w' => e = .returned (.slice (some ⟨pb, po, none⟩) g.n pc) ∧ Below x.val.heap.size x.val w' := fun x => by
        rw [← hlv]; exact lower_g (G1.below x.below) ok hy1 hk hy3
      have c4 : ∀ x : Later w1, x.val.cell? ⟨pb, po + xs, none⟩ = some (.int .u64 (g.L ys yq xs)) := fun x => by
        have := (G1.below x.below).lowSeg ok hy1 hk hy3 xs hx1
        have e1 := hlv
        simp only [lowV, Value.slice.injEq, Option.some.injEq, Addr.mk.injEq] at e1
        rw [e1.1.1, e1.1.2.1] at this
        exact this
      have c0 : ∀ x : Later w1, x.val.cell? ⟨w.heap.size, 0, none⟩ = some (.int .i64 xs) := fun x => (EX1.below x.below).c0
      have c1 : ∀ x : Later w1, x.val.cell? ⟨w.heap.size, 1, none⟩ = some (.int .u64 xq) := fun x => (EX1.below x.below).c1
      have c2 : ∀ x : Later w1, x.val.cell? ⟨w.heap.size + 1, 0, none⟩ = some (.int .i64 ys) := fun x => (EY1.below x.below).c0
      have c3 : ∀ x : Later w1, x.val.cell? ⟨w.heap.size + 1, 1, none⟩ = some (.int .u64 yq) := fun x => (EY1.below x.below).c1
      have hne : Nonempty (Later w1) := ⟨⟨w1, Below.refl _ _⟩⟩
      have hx1' : (xs : Int) < (g.n : Int) := by omega
      clear hlv
      by_cases hlo : xq ≤ g.L ys yq xs
      · have hd : decide ((xq : Int) ≤ (g.L ys yq xs : Int)) = true := by simpa using hlo
        have HI : Hid (inF g xs xq ys yq = (true, true)) := by show inF _ _ _ _ _ = _; rw [inF, if_neg HS.out, if_pos hk, if_pos hlo]
        go_wp2_with fail
        refine wp_region_later_lit (by kernel_rfl) (by kernel_rfl) ?_
        repeat (go_big_quiet_step ((go_at_call 32; exact later_of (hlow _))))
        refine wpQuiet_nil ?_
        intro x
        have bx := bb1.trans (x.below.mono bb1.size)
        clear c0 c1 c2 c3 c4 hlow
        go_wp2_with fail
        go_ret2
        exact ⟨by rw [HI.out]; rfl, bx⟩
      · have hd : decide ((xq : Int) ≤ (g.L ys yq xs : Int)) = false := by simpa using hlo
        go_wp2_with fail
        refine wp_region_later_lit (by kernel_rfl) (by kernel_rfl) ?_
        repeat (go_big_quiet_step ((go_at_call 32; exact later_of (hlow _))))
        refine wpQuiet_nil ?_
        intro x
        have bx := bb1.trans (x.below.mono bb1.size)
        have G2 := G1.below x.below
        have EX2 := EX1.below x.below
        have EY2 := EY1.below x.below
        obtain ⟨w2, hw2⟩ : ∃ w2, w2 = x.val := ⟨_, rfl⟩
        rw [← hw2] at bx G2 EX2 EY2 ⊢
        clear c0 c1 c2 c3 c4 hlow hw2 G1 EX1 EY1 bb1 hd hne
        obtain ⟨ub, uo, uc, huv, hseg, _⟩ := G2.upSeg ok hy1 hk hy3
        have hup : ∀ x : Later w2, Calls Try.prog 33 #[.pointer (some ⟨R.gb, 0, none⟩), .agg #[.int .i64 ys, .int .u64 yq]] x.val fun e w' => e = .returned (.slice (some ⟨ub, uo, none⟩) g.n uc) ∧ Below x.val.heap.size x.val w' := fun x => by
          rw [← huv]; exact upper_g (G2.below x.below) ok hy1 hk hy3
        have c4 : ∀ x : Later w2, x.val.cell? ⟨ub, uo + xs, none⟩ = some (.int .u64 (g.U ys yq xs)) := fun x => by
          have := hseg xs hx1
          rw [x.cell (World.block_lt_of_cell? _ _ this)]; exact this
        have c0 : ∀ x : Later w2, x.val.cell? ⟨w.heap.size, 0, none⟩ = some (.int .i64 xs) := fun x => (EX2.below x.below).c0
        have c1 : ∀ x : Later w2, x.val.cell? ⟨w.heap.size, 1, none⟩ = some (.int .u64 xq) := fun x => (EX2.below x.below).c1
        have c2 : ∀ x : Later w2, x.val.cell? ⟨w.heap.size + 1, 0, none⟩ = some (.int .i64 ys) := fun x => (EY2.below x.below).c0
        have c3 : ∀ x : Later w2, x.val.cell? ⟨w.heap.size + 1, 1, none⟩ = some (.int .u64 yq) := fun x => (EY2.below x.below).c1
        have hne : Nonempty (Later w2) := ⟨⟨w2, Below.refl _ _⟩⟩
        clear huv hseg
        by_cases hup2 : g.U ys yq xs < xq
        · have hd : decide ((g.U ys yq xs : Int) < (xq : Int)) = true := by simpa using hup2
          have HI : Hid (inF g xs xq ys yq = (false, true)) := by show inF _ _ _ _ _ = _; rw [inF, if_neg HS.out, if_pos hk, if_neg hlo, if_pos hup2]
          go_wp2_with fail
          refine wp_region_later_lit (by kernel_rfl) (by kernel_rfl) ?_
          repeat (go_big_quiet_step ((go_at_call 33; exact later_of (hup _))))
          refine wpQuiet_nil ?_
          intro x
          have bx2 := bx.trans (x.below.mono bx.size)
          clear c0 c1 c2 c3 c4 hup
          go_wp2_with fail
          go_ret2
          exact ⟨by rw [HI.out]; rfl, bx2⟩
        · have hd : decide ((g.U ys yq xs : Int) < (xq : Int)) = false := by simpa using hup2
          have HI : Hid (inF g xs xq ys yq = (false, false)) := by show inF _ _ _ _ _ = _; rw [inF, if_neg HS.out, if_pos hk, if_neg hlo, if_neg hup2]
          go_wp2_with fail
          refine wp_region_later_lit (by kernel_rfl) (by kernel_rfl) ?_
          repeat (go_big_quiet_step ((go_at_call 33; exact later_of (hup _))))
          refine wpQuiet_nil ?_
          intro x
          have bx2 := bx.trans (x.below.mono bx.size)
          clear c0 c1 c2 c3 c4 hup
          go_wp2_with fail
          go_ret2
          exact ⟨by rw [HI.out]; rfl, bx2⟩
    · refine (kept_f GA hy1 hk).mono ?_
      rintro e w1 ⟨rfl, hb1⟩
      have G1 := GA.below hb1
      have EX1 := EX.below hb1
      have EY1 := EY.below hb1
      have bb1 : Below w.heap.size w w1 := bA.trans (hb1.mono bA.size)
      clear GA EX EY bA hb1 HN
      have hfy : g.first ys ≤ g.cnt ys := ok.f2 ys hy1 (by omega)
      obtain ⟨ub, uo, uc, huv, hseg, _⟩ := G1.upSeg ok hy1 (Nat.le_refl _) hfy
      have hup : ∀ x : Later w1, Calls Try.prog 33 #[.pointer (some ⟨R.gb, 0, none⟩), .agg #[.int .i64 ys, .int .u64 (g.first ys)]] x.val fun e w' => e = .returned (.slice (some ⟨ub, uo, none⟩) g.n uc) ∧ Below x.val.heap.size x.val w' := fun x => by
        rw [← huv]; exact upper_g (G1.below x.below) ok hy1 (Nat.le_refl _) hfy
      have hold : ∀ x : Later w1, Calls Try.prog 38 #[.pointer (some ⟨R.gb, 0, none⟩), .int .i64 ys] x.val fun e w' => e = .returned (.agg #[.int .i64 ys, .int .u64 (g.first ys)]) ∧ Below x.val.heap.size x.val w' := fun x => oldest_g (G1.below x.below) hy1
      have c4 : ∀ x : Later w1, x.val.cell? ⟨ub, uo + xs, none⟩ = some (.int .u64 (g.U ys (g.first ys) xs)) := fun x => by
        have := hseg xs hx1
        rw [x.cell (World.block_lt_of_cell? _ _ this)]; exact this
      have c0 : ∀ x : Later w1, x.val.cell? ⟨w.heap.size, 0, none⟩ = some (.int .i64 xs) := fun x => (EX1.below x.below).c0
      have c1 : ∀ x : Later w1, x.val.cell? ⟨w.heap.size, 1, none⟩ = some (.int .u64 xq) := fun x => (EX1.below x.below).c1
      have c2 : ∀ x : Later w1, x.val.cell? ⟨w.heap.size + 1, 0, none⟩ = some (.int .i64 ys) := fun x => (EY1.below x.below).c0
      have c3 : ∀ x : Later w1, x.val.cell? ⟨w.heap.size + 1, 1, none⟩ = some (.int .u64 yq) := fun x => (EY1.below x.below).c1
      have c5 : ∀ x : Later w1, x.val.cell? ⟨R.gb, 5, none⟩ = some (.int .u64 g.fgt) := fun x => (G1.below x.below).g5
      have hne : Nonempty (Later w1) := ⟨⟨w1, Below.refl _ _⟩⟩
      have hx1' : (xs : Int) < (g.n : Int) := by omega
      clear huv hseg
      by_cases hu : g.U ys (g.first ys) xs < xq
      · have hd : decide ((g.U ys (g.first ys) xs : Int) < (xq : Int)) = true := by simpa using hu
        have HI : Hid (inF g xs xq ys yq = (false, true)) := by show inF _ _ _ _ _ = _; rw [inF, if_neg HS.out, if_neg hk, if_pos (.inl hu)]
        go_wp2_with fail
        refine wp_region_later_lit (by kernel_rfl) (by kernel_rfl) ?_
        repeat (go_big_quiet_step (first | (go_at_call 38; exact later_of (hold _)) | (go_at_call 33; exact later_of (hup _))))
        refine wpQuiet_nil ?_
        intro x
        have bx := bb1.trans (x.below.mono bb1.size)
        clear c0 c1 c2 c3 c4 c5 hup hold
        go_wp2_with fail
        go_ret2
        exact ⟨by rw [HI.out]; rfl, bx⟩
      · have hd : decide ((g.U ys (g.first ys) xs : Int) < (xq : Int)) = false := by simpa using hu
        by_cases hkx2 : g.first xs ≤ xq
        · have hkx : ∀ x : Later w1, Calls Try.prog 37 #[.pointer (some ⟨R.gb, 0, none⟩), .agg #[.int .i64 xs, .int .u64 xq]] x.val fun e w' => e = .returned (.bool true) ∧ Below x.val.heap.size x.val w' := fun x => kept_t (G1.below x.below) hx1 hkx2
          have hat : ∀ x : Later w1, Calls Try.prog 39 #[.pointer (some ⟨R.gb, 0, none⟩), .agg #[.int .i64 xs, .int .u64 xq]] x.val fun e w' => e = .returned (.int .u64 (g.dn xs xq)) ∧ Below x.val.heap.size x.val w' := fun x => at_g (G1.below x.below) ok hx1 hkx2 hx3
          by_cases hf : g.fgt < g.dn xs xq
          · have hd2 : decide ((g.fgt : Int) < (g.dn xs xq : Int)) = true := by simpa using hf
            have HI : Hid (inF g xs xq ys yq = (false, true)) := by show inF _ _ _ _ _ = _; rw [inF, if_neg HS.out, if_neg hk, if_pos (.inr ⟨hkx2, hf⟩)]
            go_wp2_with fail
            refine wp_region_later_lit (by kernel_rfl) (by kernel_rfl) ?_
            repeat (go_big_quiet_step (first | (go_at_call 38; exact later_of (hold _)) | (go_at_call 33; exact later_of (hup _)) | (go_at_call 37; exact later_of (hkx _)) | (go_at_call 39; exact later_of (hat _))))
            refine wpQuiet_nil ?_
            intro x
            have bx := bb1.trans (x.below.mono bb1.size)
            clear c0 c1 c2 c3 c4 c5 hup hold
            go_wp2_with fail
            go_ret2
            exact ⟨by rw [HI.out]; rfl, bx⟩
          · have hd2 : decide ((g.fgt : Int) < (g.dn xs xq : Int)) = false := by simpa using hf
            have HI : Hid (inF g xs xq ys yq = (false, false)) := by show inF _ _ _ _ _ = _; rw [inF, if_neg HS.out, if_neg hk, if_neg (fun e => e.elim hu (fun e => hf e.2))]
            go_wp2_with fail
            refine wp_region_later_lit (by kernel_rfl) (by kernel_rfl) ?_
            repeat (go_big_quiet_step (first | (go_at_call 38; exact later_of (hold _)) | (go_at_call 33; exact later_of (hup _)) | (go_at_call 37; exact later_of (hkx _)) | (go_at_call 39; exact later_of (hat _))))
            refine wpQuiet_nil ?_
            intro x
            have bx := bb1.trans (x.below.mono bb1.size)
            clear c0 c1 c2 c3 c4 c5 hup hold
            go_wp2_with fail
            go_ret2
            exact ⟨by rw [HI.out]; rfl, bx⟩
        · have hkx : ∀ x : Later w1, Calls Try.prog 37 #[.pointer (some ⟨R.gb, 0, none⟩), .agg #[.int .i64 xs, .int .u64 xq]] x.val fun e w' => e = .returned (.bool false) ∧ Below x.val.heap.size x.val w' := fun x => kept_f (G1.below x.below) hx1 hkx2
          have HI : Hid (inF g xs xq ys yq = (false, false)) := by show inF _ _ _ _ _ = _; rw [inF, if_neg HS.out, if_neg hk, if_neg (fun e => e.elim hu (fun e => hkx2 e.1))]
          go_wp2_with fail
          refine wp_region_later_lit (by kernel_rfl) (by kernel_rfl) ?_
          repeat (go_big_quiet_step (first | (go_at_call 38; exact later_of (hold _)) | (go_at_call 33; exact later_of (hup _)) | (go_at_call 37; exact later_of (hkx _))))
          refine wpQuiet_nil ?_
          intro x
          have bx := bb1.trans (x.below.mono bb1.size)
          clear c0 c1 c2 c3 c4 c5 hup hold
          go_wp2_with fail
          go_ret2
          exact ⟨by rw [HI.out]; rfl, bx⟩

end Go.Proofs.Qxb6605249a

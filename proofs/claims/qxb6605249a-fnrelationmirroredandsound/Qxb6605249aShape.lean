/-
  THE ARGUMENTS AS THEY CAME IN; THE WALKS OF zzValidScript (unequal lengths, no delivery) AND zzShapeFitsB1.
-/
import Derived.Test.Qxb6605249aValid
import Derived.Test.Qxb6605249aScan
import Derived.Test.Qxb6605249aLook
set_option linter.unusedVariables false
set_option linter.unusedSimpArgs false
namespace Go.Proofs.Qxb6605249a
open Go.RowKit

/-- The four slices as they came in, nil or not, of whatever lengths; all below block B. -/
structure Arg (w : World) (B : Nat) (ja sa ba qa : Option Addr) (jl sl bl ql : Nat) (J : Nat → Int) (S : Nat → Nat) (bA : Nat → Option Addr) (bL bC : Nat → Nat) (qA : Nat → Option Addr) (qL qC : Nat → Nat) (X : Nat → Nat → Int) (Y : Nat → Nat → Nat) : Prop where
  cJ : 0 < jl → ∃ b o, ja = some ⟨b, o, none⟩ ∧ b < B ∧ ∀ k, k < jl → w.cell? ⟨b, o + k, none⟩ = some (.int .i64 (J k))
  cS : 0 < sl → ∃ b o, sa = some ⟨b, o, none⟩ ∧ b < B ∧ ∀ k, k < sl → w.cell? ⟨b, o + k, none⟩ = some (.int .u64 (S k))
  cB : Hdr w B ba bl bA bL bC
  cQ : Hdr w B qa ql qA qL qC
  cX : ∀ i, i < bl → 0 < bL i → ∃ b o, bA i = some ⟨b, o, none⟩ ∧ b < B ∧ ∀ k, k < bL i → w.cell? ⟨b, o + k, none⟩ = some (.int .i64 (X i k))
  cY : ∀ i, i < ql → 0 < qL i → ∃ b o, qA i = some ⟨b, o, none⟩ ∧ b < B ∧ ∀ k, k < qL i → w.cell? ⟨b, o + k, none⟩ = some (.int .u64 (Y i k))

theorem Arg.below {w w' : World} {B B' : Nat} {ja sa ba qa : Option Addr} {jl sl bl ql : Nat} {J : Nat → Int} {S : Nat → Nat} {bA : Nat → Option Addr} {bL bC : Nat → Nat} {qA : Nat → Option Addr} {qL qC : Nat → Nat} {X : Nat → Nat → Int} {Y : Nat → Nat → Nat}
    (h : Arg w B ja sa ba qa jl sl bl ql J S bA bL bC qA qL qC X Y) (hb : Below B' w w') (hB : B ≤ B') : Arg w' B ja sa ba qa jl sl bl ql J S bA bL bC qA qL qC X Y :=
  have k : ∀ {b o v}, b < B → w.cell? ⟨b, o, none⟩ = some v → w'.cell? ⟨b, o, none⟩ = some v := fun {b o v} h1 h2 => by rw [hb.cell (p := ⟨b, o, none⟩) (Nat.lt_of_lt_of_le h1 hB)]; exact h2
  { cJ := fun h0 => by obtain ⟨b, o, h1, h2, h3⟩ := h.cJ h0; exact ⟨b, o, h1, h2, fun t ht => k h2 (h3 t ht)⟩
    cS := fun h0 => by obtain ⟨b, o, h1, h2, h3⟩ := h.cS h0; exact ⟨b, o, h1, h2, fun t ht => k h2 (h3 t ht)⟩
    cB := ⟨fun h0 => by obtain ⟨b, o, h1, h2, h3⟩ := h.cB.at_ h0; exact ⟨b, o, h1, h2, fun t ht => k h2 (h3 t ht)⟩⟩
    cQ := ⟨fun h0 => by obtain ⟨b, o, h1, h2, h3⟩ := h.cQ.at_ h0; exact ⟨b, o, h1, h2, fun t ht => k h2 (h3 t ht)⟩⟩
    cX := fun i hi h0 => by obtain ⟨b, o, h1, h2, h3⟩ := h.cX i hi h0; exact ⟨b, o, h1, h2, fun t ht => k h2 (h3 t ht)⟩
    cY := fun i hi h0 => by obtain ⟨b, o, h1, h2, h3⟩ := h.cY i hi h0; exact ⟨b, o, h1, h2, fun t ht => k h2 (h3 t ht)⟩ }

theorem Arg.inp {w : World} {B : Nat} {ja sa ba qa : Option Addr} {jl sl bl ql : Nat} {J : Nat → Int} {S : Nat → Nat} {bA : Nat → Option Addr} {bL bC : Nat → Nat} {qA : Nat → Option Addr} {qL qC : Nat → Nat} {X : Nat → Nat → Int} {Y : Nat → Nat → Nat}
    (h : Arg w B ja sa ba qa jl sl bl ql J S bA bL bC qA qL qC X Y) (h0 : 0 < jl) (e1 : sl = jl) (e2 : bl = jl) (e3 : ql = jl) (jc sc bc qc : Nat) :
    ∃ I : Inp, I.js = .slice ja jl jc ∧ I.seqs = .slice sa sl sc ∧ I.bs = .slice ba bl bc ∧ I.bq = .slice qa ql qc ∧ I.L = jl ∧ I.bL = bL ∧ I.qL = qL ∧ In w B I J S X Y := by
  subst e1 e2 e3
  obtain ⟨jb, jo, rfl, h1, h2⟩ := h.cJ h0
  obtain ⟨sb, so, rfl, h3, h4⟩ := h.cS h0
  obtain ⟨bb, bo, rfl, h5, h6⟩ := h.cB.at_ h0
  obtain ⟨qb, qo, rfl, h7, h8⟩ := h.cQ.at_ h0
  exact ⟨{ L := ql, jb := jb, jo := jo, jc := jc, sb := sb, so := so, sc := sc, bb := bb, bo := bo, bc := bc, qb := qb, qo := qo, qc := qc, bA := bA, bL := bL, bC := bC, qA := qA, qL := qL, qC := qC }, rfl, rfl, rfl, rfl, rfl, rfl, rfl,
    { bJ := h1, bS := h3, bB := h5, bQ := h7, cJ := h2, cS := h4, cB := h6, cQ := h8, cX := h.cX, cY := h.cY }⟩

set_option maxRecDepth 100000 in
set_option maxHeartbeats 1000000 in
theorem valid_ne (P : Prop) (n : Nat) (w : World) (ja sa ba qa : Option Addr) (jl jc sl sc bl bc ql qc : Nat) (hn : n ≤ 4096) (h : ¬ (sl = jl ∧ bl = jl ∧ ql = jl)) :
    Calls Try.prog 29 #[.int .i64 n, .slice ja jl jc, .slice sa sl sc, .slice ba bl bc, .slice qa ql qc] w fun e w' => VQ w P e w' := by
  go_enter Try.func29, Try.ntmps29
  by_cases h1 : sl = jl
  case neg =>
    have d : ((sl : Int) != (jl : Int)) = true := by rw [bne_iff_ne]; omega
    clear h h1
    go_wp2
    go_ret
    exact vq_no (Below.refl _ _)
  have d1 : ((sl : Int) != (jl : Int)) = false := by simp [h1]
  by_cases h2 : bl = jl
  case neg =>
    have d : ((bl : Int) != (jl : Int)) = true := by rw [bne_iff_ne]; omega
    clear h h1 h2
    go_wp2
    go_ret
    exact vq_no (Below.refl _ _)
  have d2 : ((bl : Int) != (jl : Int)) = false := by simp [h2]
  have d3 : ((ql : Int) != (jl : Int)) = true := by rw [bne_iff_ne]; omega
  clear h h1 h2
  go_wp2
  go_ret
  exact vq_no (Below.refl _ _)

set_option maxRecDepth 100000 in
set_option maxHeartbeats 1000000 in
theorem valid_zero (P : Prop) (hP : P) (n : Nat) (w : World) (ja sa ba qa : Option Addr) (jc sc bc qc : Nat) (hn : n ≤ 4096) :
    Calls Try.prog 29 #[.int .i64 n, .slice ja 0 jc, .slice sa 0 sc, .slice ba 0 bc, .slice qa 0 qc] w fun e w' => VQ w P e w' := by
  have hmk := run_make_row' (P := Try.prog) 24 22 (.int .u64 0) 8 Try.underlying24 Try.info22 rfl .i64 .i64 n (by omega) (by omega)
  have mk1 := hmk w
  have hb0 : Below w.heap.size w (w.alloc (.cells (madeCells #[.int .u64 0] n) 22)) := (Below.refl _ _).alloc (Nat.le_refl _) _
  clear hmk
  go_enter Try.func29, Try.ntmps29
  go_wp2
  clear mk1
  go_loopg [12] 0 (fun gk t wr => t = .int .i64 0 ∧ Below w.heap.size w wr)
  case atStart => exact ⟨rfl, hb0⟩
  case round =>
    obtain ⟨rfl, hb⟩ := hrel
    clear hb0
    go_wp2
    go_ret
    exact ⟨true, rfl, fun _ => hP, hb⟩

/-- What zzShapeFitsB1's 'true' says. -/
def Fits (n : Int) (jl sl bl ql : Nat) (J : Nat → Int) (S : Nat → Nat) (bL qL : Nat → Nat) (X : Nat → Nat → Int) (Y : Nat → Nat → Nat) : Prop :=
  1 ≤ n ∧ n ≤ 4096 ∧ jl ≤ 4096 ∧ n * ((jl : Int) + 1) ≤ 4194304 ∧ sl = jl ∧ bl = jl ∧ ql = jl ∧ ∀ i, i < jl → VI n.toNat J S bL qL X Y i

set_option maxRecDepth 100000 in
set_option maxHeartbeats 1000000 in
theorem shape_any (n : Int) (w : World) (B : Nat) (ja sa ba qa : Option Addr) (jl jc sl sc bl bc ql qc : Nat) (J : Nat → Int) (S : Nat → Nat) (bA : Nat → Option Addr) (bL bC : Nat → Nat) (qA : Nat → Option Addr) (qL qC : Nat → Nat) (X : Nat → Nat → Int) (Y : Nat → Nat → Nat)
    (hA : Arg w B ja sa ba qa jl sl bl ql J S bA bL bC qA qL qC X Y) (hB : B ≤ w.heap.size) (hm : ∀ i, i < bl → bL i ≤ 1048576) (hm2 : ∀ i, i < ql → qL i ≤ 1048576) :
    Calls Try.prog 11 #[.int .i64 n, .slice ja jl jc, .slice sa sl sc, .slice ba bl bc, .slice qa ql qc] w fun e w' => VQ w (Fits n jl sl bl ql J S bL qL X Y) e w' := by
  go_enter Try.func11, Try.ntmps11
  by_cases h1 : (4096 : Int) < (jl : Int)
  · go_wp2
    go_ret
    exact vq_no (Below.refl _ _)
  by_cases h2 : (4096 : Int) < (sl : Int)
  · go_wp2
    go_ret
    exact vq_no (Below.refl _ _)
  by_cases h3 : (4096 : Int) < (bl : Int)
  · go_wp2
    go_ret
    exact vq_no (Below.refl _ _)
  by_cases h4 : (4096 : Int) < (ql : Int)
  · go_wp2
    go_ret
    exact vq_no (Below.refl _ _)
  by_cases h5 : n < 1
  · go_wp2
    go_ret
    exact vq_no (Below.refl _ _)
  by_cases h6 : (4096 : Int) < n
  · go_wp2
    go_ret
    exact vq_no (Below.refl _ _)
  obtain ⟨k, rfl⟩ : ∃ k : Nat, n = k := ⟨n.toNat, by omega⟩
  have hkb : (k : Int) * ((jl : Int) + 1) ≤ 4096 * 4097 := Int.mul_le_mul (by omega) (by omega) (by omega) (by omega)
  have hk0 : 0 ≤ (k : Int) * ((jl : Int) + 1) := Int.mul_nonneg (by omega) (by omega)
  by_cases h7 : (4194304 : Int) < (k : Int) * ((jl : Int) + 1)
  · go_wp2
    go_ret
    exact vq_no (Below.refl _ _)
  have hcall : Calls Try.prog 29 #[.int .i64 k, .slice ja jl jc, .slice sa sl sc, .slice ba bl bc, .slice qa ql qc] w fun e w' => VQ w (Fits k jl sl bl ql J S bL qL X Y) e w' := by
    have hto : (k : Int).toNat = k := by simp
    by_cases he : sl = jl ∧ bl = jl ∧ ql = jl
    · rcases Nat.eq_zero_or_pos jl with h0 | h0
      · obtain ⟨rfl, rfl, rfl⟩ := he
        subst h0
        exact valid_zero _ ⟨by omega, by omega, by omega, by omega, rfl, rfl, rfl, fun i hi => by omega⟩ k w ja sa ba qa jc sc bc qc (by omega)
      · obtain ⟨I, e1, e2, e3, e4, e5, e6, e7, hI⟩ := hA.inp h0 he.1 he.2.1 he.2.2 jc sc bc qc
        rw [← e1, ← e2, ← e3, ← e4]
        refine (valid_eq I k B J S X Y w hI hB (by omega) (by rw [e5]; omega) (fun i hi => ?_) (fun i hi => ?_)).mono ?_
        · rw [e6]; exact hm i (by omega)
        · rw [e7]; exact hm2 i (by omega)
        · rintro e w' ⟨b, h1, h2, h3⟩
          refine ⟨b, h1, fun hb => ⟨by omega, by omega, by omega, by omega, he.1, he.2.1, he.2.2, fun i hi => ?_⟩, h3⟩
          have := h2 hb i (by omega)
          rw [e6, e7] at this
          rw [hto]
          exact this
    · exact valid_ne _ k w ja sa ba qa jl jc sl sc bl bc ql qc (by omega) he
  have HC : Hid (Calls Try.prog 29 #[.int .i64 k, .slice ja jl jc, .slice sa sl sc, .slice ba bl bc, .slice qa ql qc] w fun e w' => VQ w (Fits k jl sl bl ql J S bL qL X Y) e w') := hcall
  clear hcall hA hm hm2
  go_wp2_with fail
  refine HC.out.mono ?_
  rintro e w1 ⟨b, rfl, hb1, hb2⟩
  have HB : Hid ((b = true → Fits k jl sl bl ql J S bL qL X Y) ∧ Below w.heap.size w w1) := ⟨hb1, hb2⟩
  clear hb1 hb2 HC
  go_wp2_with fail
  go_ret
  exact ⟨b, rfl, HB.out⟩

end Go.Proofs.Qxb6605249a

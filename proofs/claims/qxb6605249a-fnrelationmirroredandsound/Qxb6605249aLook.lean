/-
  THE WALKS OF zzBytesB1, zzIndexOf AND zzCountOf.
-/
import Derived.Test.Qxb6605249aInput
import Derived.Test.Qxb6605249aScan
import Derived.BigQuiet
set_option linter.unusedVariables false
set_option linter.unusedSimpArgs false
namespace Go.Proofs.Qxb6605249a
open Go.RowKit

/-- It answers a number; where that is no more than 1 << 20, every inner length is. -/
def B1Q (w : World) (bl ql : Nat) (bL qL : Nat → Nat) (e : Ending) (w' : World) : Prop := ∃ r : Nat, e = .returned (.int .i64 r) ∧ (r ≤ 1048576 → (∀ i, i < bl → bL i ≤ 1048576) ∧ ∀ i, i < ql → qL i ≤ 1048576) ∧ ∃ m, w' = w.drewN m

theorem b1_over {w : World} {bl ql : Nat} {bL qL : Nat → Nat} (m : Nat) : B1Q w bl ql bL qL (.returned (.int .i64 1048577)) (w.drewN m) := ⟨1048577, rfl, fun h => by omega, m, rfl⟩

set_option maxRecDepth 100000 in
set_option maxHeartbeats 1000000 in
theorem bytesB1 (w : World) (B : Nat) (ja sa ba qa : Option Addr) (jl jc sl sc bl bc ql qc : Nat) (bA qA : Nat → Option Addr) (bL bC qL qC : Nat → Nat) (hb : Hdr w B ba bl bA bL bC) (hq : Hdr w B qa ql qA qL qC) :
    Calls Try.prog 10 #[.slice ja jl jc, .slice sa sl sc, .slice ba bl bc, .slice qa ql qc] w fun e w' => B1Q w bl ql bL qL e w' := by
  go_enter Try.func10, Try.ntmps10
  by_cases h1 : (1048576 : Int) < (jl : Int)
  · go_wp2
    go_ret
    exact b1_over 0
  by_cases h2 : (1048576 : Int) < (sl : Int)
  · go_wp2
    go_ret
    exact b1_over 0
  by_cases h3 : (1048576 : Int) < (bl : Int)
  · go_wp2
    go_ret
    exact b1_over 0
  by_cases h4 : (1048576 : Int) < (ql : Int)
  · go_wp2
    go_ret
    exact b1_over 0
  by_cases h5 : (1048576 : Int) < 8 * (jl : Int) + 8 * (sl : Int) + 24 * (bl : Int) + 24 * (ql : Int)
  · go_wp2
    go_ret
    exact b1_over 0
  go_wp2
  go_loopg [10, 11] bl (fun gk z t wr => ∃ k y : Nat, k + gk = bl ∧ t = .int .i64 k ∧ z = .int .i64 y ∧ y ≤ 1048576 ∧ (∀ i, i < k → bL i ≤ 1048576) ∧ ∃ m, wr = w.drewN m)
  case atStart => exact ⟨0, 8 * jl + 8 * sl + 24 * bl + 24 * ql, by omega, rfl, by go_num, by omega, fun i hi => by omega, 0, rfl⟩
  case round =>
    obtain ⟨k, y, hk, rfl, rfl, hy, hal, m, rfl⟩ := hrel
    clear h1 h2 h5
    by_cases hlt : k < bl
    · obtain ⟨b, o, rfl, -, hc⟩ := hb.at_ (by omega)
      have d := hc k hlt
      have HA : Hid (∀ i, i < k → bL i ≤ 1048576) := hal
      clear hc hb hq hal
      have hlt' : (k : Int) < (bl : Int) := by omega
      by_cases h6 : (1048576 : Int) < (bL k : Int)
      · go_wp2
        go_ret
        exact b1_over _
      by_cases h7 : (1048576 : Int) < (y : Int) + 8 * (bL k : Int)
      · go_wp2
        go_ret
        exact b1_over _
      go_wp2
      go_roundg (gk - 1)
      case measure => omega
      case rel => exact ⟨k + 1, y + 8 * bL k, by omega, by go_num, by go_num, by omega, fun i hi => by
          by_cases e : i = k
          · rw [e]; omega
          · exact HA.out i (by omega), _, rfl⟩
    · have e : k = bl := by omega
      subst e
      have HA : Hid (∀ i, i < k → bL i ≤ 1048576) := hal
      clear hb hal
      go_wp2
      go_loopg [10, 12] ql (fun gk z t wr => ∃ k2 y : Nat, k2 + gk = ql ∧ t = .int .i64 k2 ∧ z = .int .i64 y ∧ y ≤ 1048576 ∧ (∀ i, i < k2 → qL i ≤ 1048576) ∧ ∃ m, wr = w.drewN m)
      case atStart => exact ⟨0, y, by omega, rfl, by go_num, by omega, fun i hi => by omega, _, rfl⟩
      case round =>
        clear hy
        obtain ⟨k2, y, hk2, rfl, rfl, hy, hal, m, rfl⟩ := hrel
        by_cases hlt : k2 < ql
        · obtain ⟨b, o, rfl, -, hc⟩ := hq.at_ (by omega)
          have d := hc k2 hlt
          have HC : Hid (∀ i, i < k2 → qL i ≤ 1048576) := hal
          clear hc hq hal
          have hlt' : (k2 : Int) < (ql : Int) := by omega
          by_cases h8 : (1048576 : Int) < (qL k2 : Int)
          · go_wp2
            go_ret
            exact b1_over _
          by_cases h9 : (1048576 : Int) < (y : Int) + 8 * (qL k2 : Int)
          · go_wp2
            go_ret
            exact b1_over _
          go_wp2
          go_roundg (gk - 1)
          case measure => omega
          case rel => exact ⟨k2 + 1, y + 8 * qL k2, by omega, by go_num, by go_num, by omega, fun i hi => by
              by_cases e : i = k2
              · rw [e]; omega
              · exact HC.out i (by omega), _, rfl⟩
        · have e : k2 = ql := by omega
          subst e
          have HC : Hid (∀ i, i < k2 → qL i ≤ 1048576) := hal
          clear hq hal
          go_wp2
          go_ret
          exact ⟨y, rfl, fun _ => ⟨HA.out, HC.out⟩, _, rfl⟩

/-- The index that is looked for, or -1. -/
def IdxQ (w : World) (L : Nat) (J : Nat → Int) (S : Nat → Nat) (s : Int) (q : Nat) (e : Ending) (w' : World) : Prop :=
  ((∃ i : Nat, i < L ∧ J i = s ∧ S i = q ∧ e = .returned (.int .i64 i)) ∨ e = .returned (.int .i64 (-1))) ∧ ∃ m, w' = w.drewN m

set_option maxRecDepth 100000 in
set_option maxHeartbeats 1000000 in
theorem indexOf_any (w : World) (B : Nat) (ja sa : Option Addr) (L jc sc : Nat) (J : Nat → Int) (S : Nat → Nat) (s : Int) (q : Nat)
    (hJ : 0 < L → ∃ b o, ja = some ⟨b, o, none⟩ ∧ b < B ∧ ∀ k, k < L → w.cell? ⟨b, o + k, none⟩ = some (.int .i64 (J k)))
    (hS : 0 < L → ∃ b o, sa = some ⟨b, o, none⟩ ∧ b < B ∧ ∀ k, k < L → w.cell? ⟨b, o + k, none⟩ = some (.int .u64 (S k))) (hL : L ≤ 4096) :
    Calls Try.prog 12 #[.slice ja L jc, .slice sa L sc, .int .i64 s, .int .u64 q] w fun e w' => IdxQ w L J S s q e w' := by
  go_enter Try.func12, Try.ntmps12
  go_wp2
  go_loopg [9] L (fun gk t wr => ∃ k : Nat, k + gk = L ∧ t = .int .i64 k ∧ ∃ m, wr = w.drewN m)
  case atStart => exact ⟨0, by omega, rfl, 0, rfl⟩
  case round =>
    obtain ⟨k, hk, rfl, m, rfl⟩ := hrel
    by_cases hlt : k < L
    · obtain ⟨jb, jo, rfl, -, hj⟩ := hJ (by omega)
      obtain ⟨sb, so, rfl, -, hs⟩ := hS (by omega)
      have d1 := hj k hlt
      have d2 := hs k hlt
      clear hj hs hJ hS
      have hlt' : (k : Int) < (L : Int) := by omega
      by_cases h1 : J k = s
      · have b1 : (J k == s) = true := by simp [h1]
        by_cases h2 : S k = q
        · have b2 : ((S k : Int) == (q : Int)) = true := by simp [h2]
          have HX : Hid (J k = s ∧ S k = q) := ⟨h1, h2⟩
          clear h1 h2
          go_wp2
          go_ret
          exact ⟨Or.inl ⟨k, hlt, HX.out.1, HX.out.2, rfl⟩, _, rfl⟩
        · have b2 : ((S k : Int) == (q : Int)) = false := by rw [beq_eq_false_iff_ne]; omega
          clear h1 h2
          go_wp2
          go_roundg (gk - 1)
          case measure => omega
          case rel => exact ⟨k + 1, by omega, by go_num, _, rfl⟩
      · have b1 : (J k == s) = false := by rw [beq_eq_false_iff_ne]; exact h1
        clear h1
        go_wp2
        go_roundg (gk - 1)
        case measure => omega
        case rel => exact ⟨k + 1, by omega, by go_num, _, rfl⟩
    · have e : k = L := by omega
      subst e
      clear hJ hS
      go_wp2
      go_ret
      exact ⟨Or.inr rfl, _, rfl⟩

set_option maxRecDepth 100000 in
set_option maxHeartbeats 1000000 in
theorem countOf_any (w : World) (B : Nat) (ja : Option Addr) (L jc : Nat) (J : Nat → Nat) (s : Nat)
    (hJ : 0 < L → ∃ b o, ja = some ⟨b, o, none⟩ ∧ b < B ∧ ∀ k, k < L → w.cell? ⟨b, o + k, none⟩ = some (.int .i64 (J k))) (hL : L ≤ 4096) :
    Calls Try.prog 20 #[.slice ja L jc, .int .i64 s] w fun e w' => e = .returned (.int .u64 (cntTo J L s)) ∧ ∃ m, w' = w.drewN m := by
  go_enter Try.func20, Try.ntmps20
  go_wp2
  go_loopg [5, 6] L (fun gk c t wr => ∃ k : Nat, k + gk = L ∧ t = .int .i64 k ∧ c = .int .u64 (cntTo J k s) ∧ ∃ m, wr = w.drewN m)
  case atStart => exact ⟨0, by omega, rfl, rfl, 0, rfl⟩
  case round =>
    obtain ⟨k, hk, rfl, rfl, m, rfl⟩ := hrel
    have hc := cntTo_le J k s
    obtain ⟨c, hcc⟩ : ∃ c, c = cntTo J k s := ⟨_, rfl⟩
    rw [← hcc] at hc ⊢
    by_cases hlt : k < L
    · obtain ⟨jb, jo, rfl, -, hj⟩ := hJ (by omega)
      have d1 := hj k hlt
      clear hj hJ
      have hlt' : (k : Int) < (L : Int) := by omega
      have HC : Hid (c = cntTo J k s) := hcc
      clear hcc
      by_cases h1 : J k = s
      · have b1 : ((J k : Int) == (s : Int)) = true := by simp [h1]
        have HX : Hid (J k = s) := h1
        clear h1
        go_wp2
        go_roundg (gk - 1)
        case measure => omega
        case rel => exact ⟨k + 1, by omega, by go_num, by rw [cntTo, if_pos HX.out, ← HC.out]; go_num, _, rfl⟩
      · have b1 : ((J k : Int) == (s : Int)) = false := by rw [beq_eq_false_iff_ne]; omega
        have HX : Hid (¬ J k = s) := h1
        clear h1
        go_wp2
        go_roundg (gk - 1)
        case measure => omega
        case rel => exact ⟨k + 1, by omega, by go_num, by rw [cntTo, if_neg HX.out, ← HC.out], _, rfl⟩
    · have e : k = L := by omega
      subst e
      have HC : Hid (c = cntTo J k s) := hcc
      clear hJ hcc
      go_wp2
      go_ret
      refine ⟨?_, _, rfl⟩
      rw [← HC.out]
      rfl

end Go.Proofs.Qxb6605249a

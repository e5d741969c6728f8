/-
  THE WALKS OF THE SIZE TESTS.
-/
import Derived.Test.Qxb6605249aInput
import Derived.BigQuiet
set_option linter.unusedVariables false
set_option linter.unusedSimpArgs false
namespace Go.Proofs.Qxb6605249a
open Go.RowKit

/-- A slice of slices that came in: nil or not; the i-th cell holds the slice (A i, N i, C i). -/
structure Hdr (w : World) (B : Nat) (a : Option Addr) (m : Nat) (A : Nat → Option Addr) (N C : Nat → Nat) : Prop where
  at_ : 0 < m → ∃ b o, a = some ⟨b, o, none⟩ ∧ b < B ∧ ∀ k, k < m → w.cell? ⟨b, o + k, none⟩ = some (.slice (A k) (N k) (C k))

/-- It answers a bool and touches nothing. -/
def BoolQ (w : World) (e : Ending) (w' : World) : Prop := ∃ b, e = .returned (.bool b) ∧ ∃ m, w' = w.drewN m

set_option maxRecDepth 100000 in
set_option maxHeartbeats 1000000 in
theorem bytes9 (w : World) (B : Nat) (v0 v1 v2 v3 : Value) (ja sa ba qa : Option Addr) (jl jc sl sc bl bc ql qc : Nat) (bA qA : Nat → Option Addr) (bL bC qL qC : Nat → Nat) (hb : Hdr w B ba bl bA bL bC) (hq : Hdr w B qa ql qA qL qC) :
    Calls Try.prog 9 #[v0, v1, .slice ja jl jc, .slice sa sl sc, .slice ba bl bc, .slice qa ql qc, v2, v3] w fun e w' => BoolQ w e w' := by
  go_enter Try.func9, Try.ntmps9
  by_cases h1 : (1048576 : Int) < (jl : Int)
  · go_wp2
    go_ret
    first | exact ⟨_, rfl, 0, rfl⟩ | exact ⟨_, rfl, _, rfl⟩
  by_cases h2 : (1048576 : Int) < (sl : Int)
  · go_wp2
    go_ret
    first | exact ⟨_, rfl, 0, rfl⟩ | exact ⟨_, rfl, _, rfl⟩
  by_cases h3 : (1048576 : Int) < (jl : Int) + (sl : Int)
  · go_wp2
    go_ret
    first | exact ⟨_, rfl, 0, rfl⟩ | exact ⟨_, rfl, _, rfl⟩
  by_cases h4 : (1048576 : Int) < (bl : Int)
  · go_wp2
    go_ret
    first | exact ⟨_, rfl, 0, rfl⟩ | exact ⟨_, rfl, _, rfl⟩
  by_cases h5 : (1048576 : Int) < (jl : Int) + (sl : Int) + (bl : Int)
  · go_wp2
    go_ret
    first | exact ⟨_, rfl, 0, rfl⟩ | exact ⟨_, rfl, _, rfl⟩
  go_wp2
  go_loopg [17, 18] bl (fun gk z t wr => ∃ k y : Nat, k + gk = bl ∧ t = .int .i64 k ∧ z = .int .i64 y ∧ y ≤ 1048576 ∧ ∃ m, wr = w.drewN m)
  case atStart => exact ⟨0, jl + sl + bl, by omega, rfl, by go_num, by omega, 0, rfl⟩
  case round =>
    obtain ⟨k, y, hk, rfl, rfl, hy, m, rfl⟩ := hrel
    clear h1 h2 h3 h5
    by_cases hlt : k < bl
    · obtain ⟨b, o, rfl, -, hc⟩ := hb.at_ (by omega)
      have d := hc k hlt
      clear hc hb hq
      have hlt' : (k : Int) < (bl : Int) := by omega
      by_cases h6 : (1048576 : Int) < (bL k : Int)
      · go_wp2
        go_ret
        first | exact ⟨_, rfl, 0, rfl⟩ | exact ⟨_, rfl, _, rfl⟩
      by_cases h7 : (1048576 : Int) < (y : Int) + (bL k : Int)
      · go_wp2
        go_ret
        first | exact ⟨_, rfl, 0, rfl⟩ | exact ⟨_, rfl, _, rfl⟩
      go_wp2
      go_roundg (gk - 1)
      case measure => omega
      case rel => exact ⟨k + 1, y + bL k, by omega, by go_num, by go_num, by omega, _, rfl⟩
    · have e : k = bl := by omega
      subst e
      clear hb
      by_cases h6 : (1048576 : Int) < (ql : Int)
      · go_wp2
        go_ret
        first | exact ⟨_, rfl, 0, rfl⟩ | exact ⟨_, rfl, _, rfl⟩
      by_cases h7 : (1048576 : Int) < (y : Int) + (ql : Int)
      · go_wp2
        go_ret
        first | exact ⟨_, rfl, 0, rfl⟩ | exact ⟨_, rfl, _, rfl⟩
      go_wp2
      go_loopg [17, 19] ql (fun gk z t wr => ∃ k2 y : Nat, k2 + gk = ql ∧ t = .int .i64 k2 ∧ z = .int .i64 y ∧ y ≤ 1048576 ∧ ∃ m, wr = w.drewN m)
      case atStart => exact ⟨0, y + ql, by omega, rfl, by go_num, by omega, _, rfl⟩
      case round =>
        clear h7 hy
        obtain ⟨k2, y, hk2, rfl, rfl, hy, m, rfl⟩ := hrel
        by_cases hlt : k2 < ql
        · obtain ⟨b, o, rfl, -, hc⟩ := hq.at_ (by omega)
          have d := hc k2 hlt
          clear hc hq
          have hlt' : (k2 : Int) < (ql : Int) := by omega
          by_cases h8 : (1048576 : Int) < (qL k2 : Int)
          · go_wp2
            go_ret
            first | exact ⟨_, rfl, 0, rfl⟩ | exact ⟨_, rfl, _, rfl⟩
          by_cases h9 : (1048576 : Int) < (y : Int) + (qL k2 : Int)
          · go_wp2
            go_ret
            first | exact ⟨_, rfl, 0, rfl⟩ | exact ⟨_, rfl, _, rfl⟩
          go_wp2
          go_roundg (gk - 1)
          case measure => omega
          case rel => exact ⟨k2 + 1, y + qL k2, by omega, by go_num, by go_num, by omega, _, rfl⟩
        · have e : k2 = ql := by omega
          subst e
          clear hq
          go_wp2
          go_ret
          first | exact ⟨_, rfl, 0, rfl⟩ | exact ⟨_, rfl, _, rfl⟩

set_option maxRecDepth 100000 in
set_option maxHeartbeats 1000000 in
theorem bytes19 (w : World) (B : Nat) (v0 v1 v2 v3 : Value) (ja sa ba qa : Option Addr) (jl jc sl sc bl bc ql qc : Nat) (bA qA : Nat → Option Addr) (bL bC qL qC : Nat → Nat) (hb : Hdr w B ba bl bA bL bC) (hq : Hdr w B qa ql qA qL qC) :
    Calls Try.prog 19 #[v0, v1, .slice ja jl jc, .slice sa sl sc, .slice ba bl bc, .slice qa ql qc, v2, v3] w fun e w' => BoolQ w e w' := by
  go_enter Try.func19, Try.ntmps19
  by_cases h1 : (1048576 : Int) < (jl : Int)
  · go_wp2
    go_ret
    first | exact ⟨_, rfl, 0, rfl⟩ | exact ⟨_, rfl, _, rfl⟩
  by_cases h2 : (1048576 : Int) < (sl : Int)
  · go_wp2
    go_ret
    first | exact ⟨_, rfl, 0, rfl⟩ | exact ⟨_, rfl, _, rfl⟩
  by_cases h3 : (1048576 : Int) < (jl : Int) + (sl : Int)
  · go_wp2
    go_ret
    first | exact ⟨_, rfl, 0, rfl⟩ | exact ⟨_, rfl, _, rfl⟩
  by_cases h4 : (1048576 : Int) < (bl : Int)
  · go_wp2
    go_ret
    first | exact ⟨_, rfl, 0, rfl⟩ | exact ⟨_, rfl, _, rfl⟩
  by_cases h5 : (1048576 : Int) < (jl : Int) + (sl : Int) + (bl : Int)
  · go_wp2
    go_ret
    first | exact ⟨_, rfl, 0, rfl⟩ | exact ⟨_, rfl, _, rfl⟩
  go_wp2
  go_loopg [17, 18] bl (fun gk z t wr => ∃ k y : Nat, k + gk = bl ∧ t = .int .i64 k ∧ z = .int .i64 y ∧ y ≤ 1048576 ∧ ∃ m, wr = w.drewN m)
  case atStart => exact ⟨0, jl + sl + bl, by omega, rfl, by go_num, by omega, 0, rfl⟩
  case round =>
    obtain ⟨k, y, hk, rfl, rfl, hy, m, rfl⟩ := hrel
    clear h1 h2 h3 h5
    by_cases hlt : k < bl
    · obtain ⟨b, o, rfl, -, hc⟩ := hb.at_ (by omega)
      have d := hc k hlt
      clear hc hb hq
      have hlt' : (k : Int) < (bl : Int) := by omega
      by_cases h6 : (1048576 : Int) < (bL k : Int)
      · go_wp2
        go_ret
        first | exact ⟨_, rfl, 0, rfl⟩ | exact ⟨_, rfl, _, rfl⟩
      by_cases h7 : (1048576 : Int) < (y : Int) + (bL k : Int)
      · go_wp2
        go_ret
        first | exact ⟨_, rfl, 0, rfl⟩ | exact ⟨_, rfl, _, rfl⟩
      go_wp2
      go_roundg (gk - 1)
      case measure => omega
      case rel => exact ⟨k + 1, y + bL k, by omega, by go_num, by go_num, by omega, _, rfl⟩
    · have e : k = bl := by omega
      subst e
      clear hb
      by_cases h6 : (1048576 : Int) < (ql : Int)
      · go_wp2
        go_ret
        first | exact ⟨_, rfl, 0, rfl⟩ | exact ⟨_, rfl, _, rfl⟩
      by_cases h7 : (1048576 : Int) < (y : Int) + (ql : Int)
      · go_wp2
        go_ret
        first | exact ⟨_, rfl, 0, rfl⟩ | exact ⟨_, rfl, _, rfl⟩
      go_wp2
      go_loopg [17, 19] ql (fun gk z t wr => ∃ k2 y : Nat, k2 + gk = ql ∧ t = .int .i64 k2 ∧ z = .int .i64 y ∧ y ≤ 1048576 ∧ ∃ m, wr = w.drewN m)
      case atStart => exact ⟨0, y + ql, by omega, rfl, by go_num, by omega, _, rfl⟩
      case round =>
        clear h7 hy
        obtain ⟨k2, y, hk2, rfl, rfl, hy, m, rfl⟩ := hrel
        by_cases hlt : k2 < ql
        · obtain ⟨b, o, rfl, -, hc⟩ := hq.at_ (by omega)
          have d := hc k2 hlt
          clear hc hq
          have hlt' : (k2 : Int) < (ql : Int) := by omega
          by_cases h8 : (1048576 : Int) < (qL k2 : Int)
          · go_wp2
            go_ret
            first | exact ⟨_, rfl, 0, rfl⟩ | exact ⟨_, rfl, _, rfl⟩
          by_cases h9 : (1048576 : Int) < (y : Int) + (qL k2 : Int)
          · go_wp2
            go_ret
            first | exact ⟨_, rfl, 0, rfl⟩ | exact ⟨_, rfl, _, rfl⟩
          go_wp2
          go_roundg (gk - 1)
          case measure => omega
          case rel => exact ⟨k2 + 1, y + qL k2, by omega, by go_num, by go_num, by omega, _, rfl⟩
        · have e : k2 = ql := by omega
          subst e
          clear hq
          go_wp2
          go_ret
          first | exact ⟨_, rfl, 0, rfl⟩ | exact ⟨_, rfl, _, rfl⟩

set_option maxRecDepth 100000 in
set_option maxHeartbeats 1000000 in
theorem bytes21 (w : World) (B : Nat) (v0 v1 v2 v3 v4 v5 : Value) (ja sa ba qa : Option Addr) (jl jc sl sc bl bc ql qc : Nat) (bA qA : Nat → Option Addr) (bL bC qL qC : Nat → Nat) (hb : Hdr w B ba bl bA bL bC) (hq : Hdr w B qa ql qA qL qC) :
    Calls Try.prog 21 #[v0, v1, .slice ja jl jc, .slice sa sl sc, .slice ba bl bc, .slice qa ql qc, v2, v3, v4, v5] w fun e w' => BoolQ w e w' := by
  go_enter Try.func21, Try.ntmps21
  by_cases h1 : (1048576 : Int) < (jl : Int)
  · go_wp2
    go_ret
    first | exact ⟨_, rfl, 0, rfl⟩ | exact ⟨_, rfl, _, rfl⟩
  by_cases h2 : (1048576 : Int) < (sl : Int)
  · go_wp2
    go_ret
    first | exact ⟨_, rfl, 0, rfl⟩ | exact ⟨_, rfl, _, rfl⟩
  by_cases h3 : (1048576 : Int) < (jl : Int) + (sl : Int)
  · go_wp2
    go_ret
    first | exact ⟨_, rfl, 0, rfl⟩ | exact ⟨_, rfl, _, rfl⟩
  by_cases h4 : (1048576 : Int) < (bl : Int)
  · go_wp2
    go_ret
    first | exact ⟨_, rfl, 0, rfl⟩ | exact ⟨_, rfl, _, rfl⟩
  by_cases h5 : (1048576 : Int) < (jl : Int) + (sl : Int) + (bl : Int)
  · go_wp2
    go_ret
    first | exact ⟨_, rfl, 0, rfl⟩ | exact ⟨_, rfl, _, rfl⟩
  go_wp2
  go_loopg [21, 22] bl (fun gk z t wr => ∃ k y : Nat, k + gk = bl ∧ t = .int .i64 k ∧ z = .int .i64 y ∧ y ≤ 1048576 ∧ ∃ m, wr = w.drewN m)
  case atStart => exact ⟨0, jl + sl + bl, by omega, rfl, by go_num, by omega, 0, rfl⟩
  case round =>
    obtain ⟨k, y, hk, rfl, rfl, hy, m, rfl⟩ := hrel
    clear h1 h2 h3 h5
    by_cases hlt : k < bl
    · obtain ⟨b, o, rfl, -, hc⟩ := hb.at_ (by omega)
      have d := hc k hlt
      clear hc hb hq
      have hlt' : (k : Int) < (bl : Int) := by omega
      by_cases h6 : (1048576 : Int) < (bL k : Int)
      · go_wp2
        go_ret
        first | exact ⟨_, rfl, 0, rfl⟩ | exact ⟨_, rfl, _, rfl⟩
      by_cases h7 : (1048576 : Int) < (y : Int) + (bL k : Int)
      · go_wp2
        go_ret
        first | exact ⟨_, rfl, 0, rfl⟩ | exact ⟨_, rfl, _, rfl⟩
      go_wp2
      go_roundg (gk - 1)
      case measure => omega
      case rel => exact ⟨k + 1, y + bL k, by omega, by go_num, by go_num, by omega, _, rfl⟩
    · have e : k = bl := by omega
      subst e
      clear hb
      by_cases h6 : (1048576 : Int) < (ql : Int)
      · go_wp2
        go_ret
        first | exact ⟨_, rfl, 0, rfl⟩ | exact ⟨_, rfl, _, rfl⟩
      by_cases h7 : (1048576 : Int) < (y : Int) + (ql : Int)
      · go_wp2
        go_ret
        first | exact ⟨_, rfl, 0, rfl⟩ | exact ⟨_, rfl, _, rfl⟩
      go_wp2
      go_loopg [21, 23] ql (fun gk z t wr => ∃ k2 y : Nat, k2 + gk = ql ∧ t = .int .i64 k2 ∧ z = .int .i64 y ∧ y ≤ 1048576 ∧ ∃ m, wr = w.drewN m)
      case atStart => exact ⟨0, y + ql, by omega, rfl, by go_num, by omega, _, rfl⟩
      case round =>
        clear h7 hy
        obtain ⟨k2, y, hk2, rfl, rfl, hy, m, rfl⟩ := hrel
        by_cases hlt : k2 < ql
        · obtain ⟨b, o, rfl, -, hc⟩ := hq.at_ (by omega)
          have d := hc k2 hlt
          clear hc hq
          have hlt' : (k2 : Int) < (ql : Int) := by omega
          by_cases h8 : (1048576 : Int) < (qL k2 : Int)
          · go_wp2
            go_ret
            first | exact ⟨_, rfl, 0, rfl⟩ | exact ⟨_, rfl, _, rfl⟩
          by_cases h9 : (1048576 : Int) < (y : Int) + (qL k2 : Int)
          · go_wp2
            go_ret
            first | exact ⟨_, rfl, 0, rfl⟩ | exact ⟨_, rfl, _, rfl⟩
          go_wp2
          go_roundg (gk - 1)
          case measure => omega
          case rel => exact ⟨k2 + 1, y + qL k2, by omega, by go_num, by go_num, by omega, _, rfl⟩
        · have e : k2 = ql := by omega
          subst e
          clear hq
          go_wp2
          go_ret
          first | exact ⟨_, rfl, 0, rfl⟩ | exact ⟨_, rfl, _, rfl⟩

set_option maxRecDepth 100000 in
set_option maxHeartbeats 1000000 in
theorem bytes23 (w : World) (B : Nat) (v0 v1 v2 v3 v4 v5 : Value) (ja sa ba qa : Option Addr) (jl jc sl sc bl bc ql qc : Nat) (bA qA : Nat → Option Addr) (bL bC qL qC : Nat → Nat) (hb : Hdr w B ba bl bA bL bC) (hq : Hdr w B qa ql qA qL qC) :
    Calls Try.prog 23 #[v0, v1, .slice ja jl jc, .slice sa sl sc, .slice ba bl bc, .slice qa ql qc, v2, v3, v4, v5] w fun e w' => BoolQ w e w' := by
  go_enter Try.func23, Try.ntmps23
  by_cases h1 : (1048576 : Int) < (jl : Int)
  · go_wp2
    go_ret
    first | exact ⟨_, rfl, 0, rfl⟩ | exact ⟨_, rfl, _, rfl⟩
  by_cases h2 : (1048576 : Int) < (sl : Int)
  · go_wp2
    go_ret
    first | exact ⟨_, rfl, 0, rfl⟩ | exact ⟨_, rfl, _, rfl⟩
  by_cases h3 : (1048576 : Int) < (jl : Int) + (sl : Int)
  · go_wp2
    go_ret
    first | exact ⟨_, rfl, 0, rfl⟩ | exact ⟨_, rfl, _, rfl⟩
  by_cases h4 : (1048576 : Int) < (bl : Int)
  · go_wp2
    go_ret
    first | exact ⟨_, rfl, 0, rfl⟩ | exact ⟨_, rfl, _, rfl⟩
  by_cases h5 : (1048576 : Int) < (jl : Int) + (sl : Int) + (bl : Int)
  · go_wp2
    go_ret
    first | exact ⟨_, rfl, 0, rfl⟩ | exact ⟨_, rfl, _, rfl⟩
  go_wp2
  go_loopg [21, 22] bl (fun gk z t wr => ∃ k y : Nat, k + gk = bl ∧ t = .int .i64 k ∧ z = .int .i64 y ∧ y ≤ 1048576 ∧ ∃ m, wr = w.drewN m)
  case atStart => exact ⟨0, jl + sl + bl, by omega, rfl, by go_num, by omega, 0, rfl⟩
  case round =>
    obtain ⟨k, y, hk, rfl, rfl, hy, m, rfl⟩ := hrel
    clear h1 h2 h3 h5
    by_cases hlt : k < bl
    · obtain ⟨b, o, rfl, -, hc⟩ := hb.at_ (by omega)
      have d := hc k hlt
      clear hc hb hq
      have hlt' : (k : Int) < (bl : Int) := by omega
      by_cases h6 : (1048576 : Int) < (bL k : Int)
      · go_wp2
        go_ret
        first | exact ⟨_, rfl, 0, rfl⟩ | exact ⟨_, rfl, _, rfl⟩
      by_cases h7 : (1048576 : Int) < (y : Int) + (bL k : Int)
      · go_wp2
        go_ret
        first | exact ⟨_, rfl, 0, rfl⟩ | exact ⟨_, rfl, _, rfl⟩
      go_wp2
      go_roundg (gk - 1)
      case measure => omega
      case rel => exact ⟨k + 1, y + bL k, by omega, by go_num, by go_num, by omega, _, rfl⟩
    · have e : k = bl := by omega
      subst e
      clear hb
      by_cases h6 : (1048576 : Int) < (ql : Int)
      · go_wp2
        go_ret
        first | exact ⟨_, rfl, 0, rfl⟩ | exact ⟨_, rfl, _, rfl⟩
      by_cases h7 : (1048576 : Int) < (y : Int) + (ql : Int)
      · go_wp2
        go_ret
        first | exact ⟨_, rfl, 0, rfl⟩ | exact ⟨_, rfl, _, rfl⟩
      go_wp2
      go_loopg [21, 23] ql (fun gk z t wr => ∃ k2 y : Nat, k2 + gk = ql ∧ t = .int .i64 k2 ∧ z = .int .i64 y ∧ y ≤ 1048576 ∧ ∃ m, wr = w.drewN m)
      case atStart => exact ⟨0, y + ql, by omega, rfl, by go_num, by omega, _, rfl⟩
      case round =>
        clear h7 hy
        obtain ⟨k2, y, hk2, rfl, rfl, hy, m, rfl⟩ := hrel
        by_cases hlt : k2 < ql
        · obtain ⟨b, o, rfl, -, hc⟩ := hq.at_ (by omega)
          have d := hc k2 hlt
          clear hc hq
          have hlt' : (k2 : Int) < (ql : Int) := by omega
          by_cases h8 : (1048576 : Int) < (qL k2 : Int)
          · go_wp2
            go_ret
            first | exact ⟨_, rfl, 0, rfl⟩ | exact ⟨_, rfl, _, rfl⟩
          by_cases h9 : (1048576 : Int) < (y : Int) + (qL k2 : Int)
          · go_wp2
            go_ret
            first | exact ⟨_, rfl, 0, rfl⟩ | exact ⟨_, rfl, _, rfl⟩
          go_wp2
          go_roundg (gk - 1)
          case measure => omega
          case rel => exact ⟨k2 + 1, y + qL k2, by omega, by go_num, by go_num, by omega, _, rfl⟩
        · have e : k2 = ql := by omega
          subst e
          clear hq
          go_wp2
          go_ret
          first | exact ⟨_, rfl, 0, rfl⟩ | exact ⟨_, rfl, _, rfl⟩

set_option maxRecDepth 100000 in
set_option maxHeartbeats 1000000 in
theorem bytes24 (w : World) (B : Nat) (v0 v1 v2 v3 v4 v5 : Value) (ja sa ba qa : Option Addr) (jl jc sl sc bl bc ql qc : Nat) (bA qA : Nat → Option Addr) (bL bC qL qC : Nat → Nat) (hb : Hdr w B ba bl bA bL bC) (hq : Hdr w B qa ql qA qL qC) :
    Calls Try.prog 24 #[v0, v1, .slice ja jl jc, .slice sa sl sc, .slice ba bl bc, .slice qa ql qc, v2, v3, v4, v5] w fun e w' => BoolQ w e w' := by
  go_enter Try.func24, Try.ntmps24
  by_cases h1 : (1048576 : Int) < (jl : Int)
  · go_wp2
    go_ret
    first | exact ⟨_, rfl, 0, rfl⟩ | exact ⟨_, rfl, _, rfl⟩
  by_cases h2 : (1048576 : Int) < (sl : Int)
  · go_wp2
    go_ret
    first | exact ⟨_, rfl, 0, rfl⟩ | exact ⟨_, rfl, _, rfl⟩
  by_cases h3 : (1048576 : Int) < (jl : Int) + (sl : Int)
  · go_wp2
    go_ret
    first | exact ⟨_, rfl, 0, rfl⟩ | exact ⟨_, rfl, _, rfl⟩
  by_cases h4 : (1048576 : Int) < (bl : Int)
  · go_wp2
    go_ret
    first | exact ⟨_, rfl, 0, rfl⟩ | exact ⟨_, rfl, _, rfl⟩
  by_cases h5 : (1048576 : Int) < (jl : Int) + (sl : Int) + (bl : Int)
  · go_wp2
    go_ret
    first | exact ⟨_, rfl, 0, rfl⟩ | exact ⟨_, rfl, _, rfl⟩
  go_wp2
  go_loopg [21, 22] bl (fun gk z t wr => ∃ k y : Nat, k + gk = bl ∧ t = .int .i64 k ∧ z = .int .i64 y ∧ y ≤ 1048576 ∧ ∃ m, wr = w.drewN m)
  case atStart => exact ⟨0, jl + sl + bl, by omega, rfl, by go_num, by omega, 0, rfl⟩
  case round =>
    obtain ⟨k, y, hk, rfl, rfl, hy, m, rfl⟩ := hrel
    clear h1 h2 h3 h5
    by_cases hlt : k < bl
    · obtain ⟨b, o, rfl, -, hc⟩ := hb.at_ (by omega)
      have d := hc k hlt
      clear hc hb hq
      have hlt' : (k : Int) < (bl : Int) := by omega
      by_cases h6 : (1048576 : Int) < (bL k : Int)
      · go_wp2
        go_ret
        first | exact ⟨_, rfl, 0, rfl⟩ | exact ⟨_, rfl, _, rfl⟩
      by_cases h7 : (1048576 : Int) < (y : Int) + (bL k : Int)
      · go_wp2
        go_ret
        first | exact ⟨_, rfl, 0, rfl⟩ | exact ⟨_, rfl, _, rfl⟩
      go_wp2
      go_roundg (gk - 1)
      case measure => omega
      case rel => exact ⟨k + 1, y + bL k, by omega, by go_num, by go_num, by omega, _, rfl⟩
    · have e : k = bl := by omega
      subst e
      clear hb
      by_cases h6 : (1048576 : Int) < (ql : Int)
      · go_wp2
        go_ret
        first | exact ⟨_, rfl, 0, rfl⟩ | exact ⟨_, rfl, _, rfl⟩
      by_cases h7 : (1048576 : Int) < (y : Int) + (ql : Int)
      · go_wp2
        go_ret
        first | exact ⟨_, rfl, 0, rfl⟩ | exact ⟨_, rfl, _, rfl⟩
      go_wp2
      go_loopg [21, 23] ql (fun gk z t wr => ∃ k2 y : Nat, k2 + gk = ql ∧ t = .int .i64 k2 ∧ z = .int .i64 y ∧ y ≤ 1048576 ∧ ∃ m, wr = w.drewN m)
      case atStart => exact ⟨0, y + ql, by omega, rfl, by go_num, by omega, _, rfl⟩
      case round =>
        clear h7 hy
        obtain ⟨k2, y, hk2, rfl, rfl, hy, m, rfl⟩ := hrel
        by_cases hlt : k2 < ql
        · obtain ⟨b, o, rfl, -, hc⟩ := hq.at_ (by omega)
          have d := hc k2 hlt
          clear hc hq
          have hlt' : (k2 : Int) < (ql : Int) := by omega
          by_cases h8 : (1048576 : Int) < (qL k2 : Int)
          · go_wp2
            go_ret
            first | exact ⟨_, rfl, 0, rfl⟩ | exact ⟨_, rfl, _, rfl⟩
          by_cases h9 : (1048576 : Int) < (y : Int) + (qL k2 : Int)
          · go_wp2
            go_ret
            first | exact ⟨_, rfl, 0, rfl⟩ | exact ⟨_, rfl, _, rfl⟩
          go_wp2
          go_roundg (gk - 1)
          case measure => omega
          case rel => exact ⟨k2 + 1, y + qL k2, by omega, by go_num, by go_num, by omega, _, rfl⟩
        · have e : k2 = ql := by omega
          subst e
          clear hq
          go_wp2
          go_ret
          first | exact ⟨_, rfl, 0, rfl⟩ | exact ⟨_, rfl, _, rfl⟩

set_option maxRecDepth 100000 in
set_option maxHeartbeats 1000000 in
theorem bytes27 (w : World) (B : Nat) (v0 v1 v2 v3 v4 v5 : Value) (ja sa ba qa : Option Addr) (jl jc sl sc bl bc ql qc : Nat) (bA qA : Nat → Option Addr) (bL bC qL qC : Nat → Nat) (hb : Hdr w B ba bl bA bL bC) (hq : Hdr w B qa ql qA qL qC) :
    Calls Try.prog 27 #[v0, v1, .slice ja jl jc, .slice sa sl sc, .slice ba bl bc, .slice qa ql qc, v2, v3, v4, v5] w fun e w' => BoolQ w e w' := by
  go_enter Try.func27, Try.ntmps27
  by_cases h1 : (1048576 : Int) < (jl : Int)
  · go_wp2
    go_ret
    first | exact ⟨_, rfl, 0, rfl⟩ | exact ⟨_, rfl, _, rfl⟩
  by_cases h2 : (1048576 : Int) < (sl : Int)
  · go_wp2
    go_ret
    first | exact ⟨_, rfl, 0, rfl⟩ | exact ⟨_, rfl, _, rfl⟩
  by_cases h3 : (1048576 : Int) < (jl : Int) + (sl : Int)
  · go_wp2
    go_ret
    first | exact ⟨_, rfl, 0, rfl⟩ | exact ⟨_, rfl, _, rfl⟩
  by_cases h4 : (1048576 : Int) < (bl : Int)
  · go_wp2
    go_ret
    first | exact ⟨_, rfl, 0, rfl⟩ | exact ⟨_, rfl, _, rfl⟩
  by_cases h5 : (1048576 : Int) < (jl : Int) + (sl : Int) + (bl : Int)
  · go_wp2
    go_ret
    first | exact ⟨_, rfl, 0, rfl⟩ | exact ⟨_, rfl, _, rfl⟩
  go_wp2
  go_loopg [21, 22] bl (fun gk z t wr => ∃ k y : Nat, k + gk = bl ∧ t = .int .i64 k ∧ z = .int .i64 y ∧ y ≤ 1048576 ∧ ∃ m, wr = w.drewN m)
  case atStart => exact ⟨0, jl + sl + bl, by omega, rfl, by go_num, by omega, 0, rfl⟩
  case round =>
    obtain ⟨k, y, hk, rfl, rfl, hy, m, rfl⟩ := hrel
    clear h1 h2 h3 h5
    by_cases hlt : k < bl
    · obtain ⟨b, o, rfl, -, hc⟩ := hb.at_ (by omega)
      have d := hc k hlt
      clear hc hb hq
      have hlt' : (k : Int) < (bl : Int) := by omega
      by_cases h6 : (1048576 : Int) < (bL k : Int)
      · go_wp2
        go_ret
        first | exact ⟨_, rfl, 0, rfl⟩ | exact ⟨_, rfl, _, rfl⟩
      by_cases h7 : (1048576 : Int) < (y : Int) + (bL k : Int)
      · go_wp2
        go_ret
        first | exact ⟨_, rfl, 0, rfl⟩ | exact ⟨_, rfl, _, rfl⟩
      go_wp2
      go_roundg (gk - 1)
      case measure => omega
      case rel => exact ⟨k + 1, y + bL k, by omega, by go_num, by go_num, by omega, _, rfl⟩
    · have e : k = bl := by omega
      subst e
      clear hb
      by_cases h6 : (1048576 : Int) < (ql : Int)
      · go_wp2
        go_ret
        first | exact ⟨_, rfl, 0, rfl⟩ | exact ⟨_, rfl, _, rfl⟩
      by_cases h7 : (1048576 : Int) < (y : Int) + (ql : Int)
      · go_wp2
        go_ret
        first | exact ⟨_, rfl, 0, rfl⟩ | exact ⟨_, rfl, _, rfl⟩
      go_wp2
      go_loopg [21, 23] ql (fun gk z t wr => ∃ k2 y : Nat, k2 + gk = ql ∧ t = .int .i64 k2 ∧ z = .int .i64 y ∧ y ≤ 1048576 ∧ ∃ m, wr = w.drewN m)
      case atStart => exact ⟨0, y + ql, by omega, rfl, by go_num, by omega, _, rfl⟩
      case round =>
        clear h7 hy
        obtain ⟨k2, y, hk2, rfl, rfl, hy, m, rfl⟩ := hrel
        by_cases hlt : k2 < ql
        · obtain ⟨b, o, rfl, -, hc⟩ := hq.at_ (by omega)
          have d := hc k2 hlt
          clear hc hq
          have hlt' : (k2 : Int) < (ql : Int) := by omega
          by_cases h8 : (1048576 : Int) < (qL k2 : Int)
          · go_wp2
            go_ret
            first | exact ⟨_, rfl, 0, rfl⟩ | exact ⟨_, rfl, _, rfl⟩
          by_cases h9 : (1048576 : Int) < (y : Int) + (qL k2 : Int)
          · go_wp2
            go_ret
            first | exact ⟨_, rfl, 0, rfl⟩ | exact ⟨_, rfl, _, rfl⟩
          go_wp2
          go_roundg (gk - 1)
          case measure => omega
          case rel => exact ⟨k2 + 1, y + qL k2, by omega, by go_num, by go_num, by omega, _, rfl⟩
        · have e : k2 = ql := by omega
          subst e
          clear hq
          go_wp2
          go_ret
          first | exact ⟨_, rfl, 0, rfl⟩ | exact ⟨_, rfl, _, rfl⟩

end Go.Proofs.Qxb6605249a

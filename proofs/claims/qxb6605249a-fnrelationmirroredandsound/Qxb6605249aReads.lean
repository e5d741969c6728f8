/-
  THE WALKS OF THE GRAPH's READERS: kept, lower, at, oldest, upperOf: from plain facts on cells.
-/
import Derived.Test.Qxb6605249aBase
import Derived.Deep.QuietTactic
import Derived.BigQuiet
set_option linter.unusedVariables false
set_option linter.unusedSimpArgs false
namespace Go.Proofs.Qxb6605249a
open Go.RowKit

theorem wrapu {x : Int} {p : Nat} (h : x = p) (hp : p ≤ 18446744073709551615) : IntKind.u64.wrap x = p := by
  subst h
  exact IntWalk.u64_in _ (by omega)

theorem ret_slice {b b' o o' n n' c c' : Nat} (hb : b = b') (ho : o = o') (hn : n = n') (hc : c = c') : Ending.returned (.slice (some ⟨b, o, none⟩) n c) = .returned (.slice (some ⟨b', o', none⟩) n' c') := by rw [hb, ho, hn, hc]

theorem below_box (w : World) (o : Obj) (n : Nat) : Below w.heap.size w ((w.alloc o).drewN n) := below_drewN ((Below.refl _ _).alloc (Nat.le_refl _) _) n

set_option maxHeartbeats 400000 in
theorem kept_any (gb cb n s : Nat) (q f : Int) (w : World)
  (h1 : w.cell? ⟨gb, 2, none⟩ = some (.slice (some ⟨cb, 0, none⟩) n n)) (hs : s < n)
  (h2 : w.cell? ⟨cb, s * 3, none⟩ = some (.int .u64 f)) (hb1 : gb < w.heap.size) (hb2 : cb < w.heap.size) :
  Calls Try.prog 37 #[.pointer (some ⟨gb, 0, none⟩), .agg #[.int .i64 s, .int .u64 q]] w fun e w' => e = .returned (.bool (decide (f ≤ q))) ∧ Below w.heap.size w w' := by
  have hs' : (s : Int) < (n : Int) := by omega
  go_enter Try.func37, Try.ntmps37
  go_wp2
  go_quiet (fail)
  go_wp2
  go_ret
  exact ⟨rfl, below_box _ _ _⟩

set_option maxHeartbeats 400000 in
theorem lower_any (gb cb n s m f p pb po len cap : Nat) (w : World)
  (h0 : w.cell? ⟨gb, 0, none⟩ = some (.int .i64 n))
  (h1 : w.cell? ⟨gb, 2, none⟩ = some (.slice (some ⟨cb, 0, none⟩) n n)) (hs : s < n)
  (h2 : w.cell? ⟨cb, s * 3, none⟩ = some (.int .u64 f))
  (h3 : w.cell? ⟨cb, s * 3 + 1, none⟩ = some (.slice (some ⟨pb, po, none⟩) len cap)) (hp0 : m * n = p) (hlen : p + n ≤ len) (hcap : len ≤ cap)
  (hn : 1 ≤ n) (hn' : n ≤ 4096) (hm : p ≤ 4194304) (hf : f ≤ 4096) (hm' : m ≤ 4096)
  (hb1 : gb < w.heap.size) (hb2 : cb < w.heap.size) :
  Calls Try.prog 32 #[.pointer (some ⟨gb, 0, none⟩), .agg #[.int .i64 s, .int .u64 ((f + m : Nat) : Int)]] w fun e w' => e = .returned (.slice (some ⟨pb, po + p, none⟩) n (cap - p)) ∧ Below w.heap.size w w' := by
  have hs' : (s : Int) < (n : Int) := by omega
  have hwr : Hid (IntKind.u64.wrap (((f : Int) + (m : Int) - (f : Int)) * (n : Int)) = (p : Int)) := wrapu (by rw [← hp0, show (f : Int) + m - f = m from by omega]; simp) (by omega)
  clear hp0
  go_enter Try.func32, Try.ntmps32
  go_wp2
  go_quiet (fail)
  go_wp2
  go_quiet (fail)
  go_wp2
  rw [hwr.out]
  go_quiet (fail)
  go_wp2
  go_ret
  exact ⟨ret_slice rfl rfl (Nat.add_sub_cancel_left _ _) rfl, below_drewN (below_drewN (below_box _ _ _) _) _⟩

set_option maxHeartbeats 400000 in
theorem at_any (gb cb n s m f ab ao len cap : Nat) (x : Int) (w : World)
  (h1 : w.cell? ⟨gb, 2, none⟩ = some (.slice (some ⟨cb, 0, none⟩) n n)) (hs : s < n)
  (h2 : w.cell? ⟨cb, s * 3, none⟩ = some (.int .u64 f))
  (h3 : w.cell? ⟨cb, s * 3 + 2, none⟩ = some (.slice (some ⟨ab, ao, none⟩) len cap)) (hlen : m < len) (hx : w.cell? ⟨ab, ao + m, none⟩ = some (.int .u64 x))
  (hf : f ≤ 4096) (hm' : m ≤ 4096)
  (hb1 : gb < w.heap.size) (hb2 : cb < w.heap.size) (hb3 : ab < w.heap.size) :
  Calls Try.prog 39 #[.pointer (some ⟨gb, 0, none⟩), .agg #[.int .i64 s, .int .u64 ((f + m : Nat) : Int)]] w fun e w' => e = .returned (.int .u64 x) ∧ Below w.heap.size w w' := by
  have hs' : (s : Int) < (n : Int) := by omega
  have hl' : (f : Int) + (m : Int) - (f : Int) < (len : Int) := by omega
  have hx' : w.cell? ⟨ab, ao + (f + m - f), none⟩ = some (.int .u64 x) := by rw [Nat.add_sub_cancel_left]; exact hx
  go_enter Try.func39, Try.ntmps39
  go_wp2
  go_quiet (fail)
  go_wp2
  go_quiet (fail)
  go_wp2
  go_ret
  exact ⟨rfl, below_drewN (below_box _ _ _) _⟩

set_option maxHeartbeats 400000 in
theorem oldest_any (gb cb n s : Nat) (f : Int) (w : World)
  (h1 : w.cell? ⟨gb, 2, none⟩ = some (.slice (some ⟨cb, 0, none⟩) n n)) (hs : s < n)
  (h2 : w.cell? ⟨cb, s * 3, none⟩ = some (.int .u64 f))
  (hb1 : gb < w.heap.size) (hb2 : cb < w.heap.size) :
  Calls Try.prog 38 #[.pointer (some ⟨gb, 0, none⟩), .int .i64 s] w fun e w' => e = .returned (.agg #[.int .i64 s, .int .u64 f]) ∧ Below w.heap.size w w' := by
  have hs' : (s : Int) < (n : Int) := by omega
  go_enter Try.func38, Try.ntmps38
  go_wp2
  exact bodyPost_ret (v := .agg #[.int .i64 s, .int .u64 f]) (by simp [results, Try.results38, go_sem]) rfl ⟨rfl, (Below.refl _ _).alloc (Nat.le_refl _) _⟩

set_option maxHeartbeats 400000 in
theorem upper_some (gb mb s q : Nat) (w : World) (M : Nat → Nat → Option Value) (v : Value)
  (h0 : w.cell? ⟨gb, 3, none⟩ = some (.map (some mb))) (hM : MapIs w mb M) (hv : M s q = some v)
  (hs : s < 9223372036854775808) (hq : q < 18446744073709551616)
  (hb1 : gb < w.heap.size) :
  Calls Try.prog 33 #[.pointer (some ⟨gb, 0, none⟩), .agg #[.int .i64 s, .int .u64 q]] w fun e w' => e = .returned v ∧ Below w.heap.size w w' := by
  have hlk : ∀ x : Nat, (Instr.lookup 56 (.map (some mb)) (.agg #[.int .i64 s, .int .u64 q]) true).run Try.prog ((w.alloc (.cells #[.int .i64 s, .int .u64 q] 50)).drewN x) = .ok (.tuple #[v, .bool true]) ((w.alloc (.cells #[.int .i64 s, .int .u64 q] 50)).drewN x) := fun x => by
    have h1 : MapIs ((w.alloc (.cells #[.int .i64 s, .int .u64 q] 50)).drewN x) mb M := hM.of_block (Below.heap_alloc w _ _ hM.lt)
    have := h1.lookup hs hq
    rw [hv] at this
    exact this
  clear hM hv
  go_enter Try.func33, Try.ntmps33
  go_wp2
  go_quiet (fail)
  go_wp2
  go_ret
  exact ⟨rfl, below_box _ _ _⟩

set_option maxHeartbeats 400000 in
theorem upper_none (gb cb mb n s m f p pb po len cap : Nat) (w : World) (M : Nat → Nat → Option Value)
  (hm3 : w.cell? ⟨gb, 3, none⟩ = some (.map (some mb))) (hM : MapIs w mb M) (hv : M s (f + m) = none)
  (h0 : w.cell? ⟨gb, 0, none⟩ = some (.int .i64 n))
  (h1 : w.cell? ⟨gb, 2, none⟩ = some (.slice (some ⟨cb, 0, none⟩) n n)) (hs : s < n)
  (h2 : w.cell? ⟨cb, s * 3, none⟩ = some (.int .u64 f))
  (h3 : w.cell? ⟨cb, s * 3 + 1, none⟩ = some (.slice (some ⟨pb, po, none⟩) len cap)) (hp0 : m * n = p) (hlen : p + n ≤ len) (hcap : len ≤ cap)
  (hn : 1 ≤ n) (hn' : n ≤ 4096) (hm : p ≤ 4194304) (hf : f ≤ 4096) (hm' : m ≤ 4096)
  (hb1 : gb < w.heap.size) (hb2 : cb < w.heap.size) :
  Calls Try.prog 33 #[.pointer (some ⟨gb, 0, none⟩), .agg #[.int .i64 s, .int .u64 ((f + m : Nat) : Int)]] w fun e w' => e = .returned (.slice (some ⟨pb, po + p, none⟩) n (cap - p)) ∧ Below w.heap.size w w' := by
  have hlow : ∀ x : Nat, Calls Try.prog 32 #[.pointer (some ⟨gb, 0, none⟩), .agg #[.int .i64 s, .int .u64 ((f : Int) + (m : Int))]] ((w.alloc (.cells #[.int .i64 s, .int .u64 ((f : Int) + (m : Int))] 50)).drewN x) fun e w' => e = .returned (.slice (some ⟨pb, po + p, none⟩) n (cap - p)) ∧ Below (w.heap.size + 1) ((w.alloc (.cells #[.int .i64 s, .int .u64 ((f : Int) + (m : Int))] 50)).drewN x) w' := fun x => by
    have hc : ∀ {b : Nat} (o : Nat) (_ : b < w.heap.size), ((w.alloc (.cells #[.int .i64 s, .int .u64 ((f : Int) + (m : Int))] 50)).drewN x).cell? ⟨b, o, none⟩ = w.cell? ⟨b, o, none⟩ := fun {b} o hb => World.cell?_alloc_lt w _ ⟨b, o, none⟩ hb
    have := lower_any gb cb n s m f p pb po len cap ((w.alloc (.cells #[.int .i64 s, .int .u64 ((f : Int) + (m : Int))] 50)).drewN x) ((hc 0 hb1).trans h0) ((hc 2 hb1).trans h1) hs ((hc _ hb2).trans h2) ((hc _ hb2).trans h3) hp0 hlen hcap hn hn' hm hf hm'
      (Nat.lt_of_lt_of_le hb1 (by show _ ≤ (w.alloc _).heap.size; simp)) (Nat.lt_of_lt_of_le hb2 (by show _ ≤ (w.alloc _).heap.size; simp))
    simpa using this
  have hlk : ∀ x : Nat, (Instr.lookup 56 (.map (some mb)) (.agg #[.int .i64 s, .int .u64 ((f : Int) + (m : Int))]) true).run Try.prog ((w.alloc (.cells #[.int .i64 s, .int .u64 ((f : Int) + (m : Int))] 50)).drewN x) = .ok (.tuple #[.slice none 0 0, .bool false]) ((w.alloc (.cells #[.int .i64 s, .int .u64 ((f : Int) + (m : Int))] 50)).drewN x) := fun x => by
    have h1 : MapIs ((w.alloc (.cells #[.int .i64 s, .int .u64 ((f : Int) + (m : Int))] 50)).drewN x) mb M := hM.of_block (Below.heap_alloc w _ _ hM.lt)
    have := h1.lookup (s := s) (q := f + m) (by omega) (by omega)
    rw [hv] at this
    simpa [K] using this
  clear hM hv
  go_enter Try.func33, Try.ntmps33
  go_wp2
  go_quiet (fail)
  go_wp2_with (go_at_call 32; refine (hlow _).mono ?_; rintro e w' ⟨rfl, hb⟩)
  go_ret
  exact ⟨rfl, (below_box _ _ _).trans (hb.mono (Nat.le_succ _))⟩

end Go.Proofs.Qxb6605249a

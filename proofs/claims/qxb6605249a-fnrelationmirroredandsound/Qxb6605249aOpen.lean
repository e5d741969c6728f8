/-
  THE ARGUMENTS AS THE ROW READS THEM, TURNED INTO WHAT THE WALKS TAKE.
-/
import Derived.Test.Qxb6605249aReady
import Derived.Deep.Matrix
import Derived.OpenShut
set_option linter.unusedVariables false
set_option linter.unusedSimpArgs false
namespace Go.Proofs.Qxb6605249a
open Go.RowKit Go.Deep Go.ChangeShapes Go.WideShapes

def IsRow (k : IntKind) (w : World) (a : Option Addr) (len cap : Nat) (zs : List Int) : Prop :=
  (a = none ∧ len = 0 ∧ cap = 0 ∧ zs = []) ∨
  ∃ x, a = some x ∧ len ≤ cap ∧ cap ≤ maxLen ∧ zs.length = cap ∧ (∀ i, i < zs.length → w.cell? (x.add i) = some (.int k (zs.getD i 0))) ∧ ∀ n ∈ zs, (Lit.int k n).wf = true

def IsRows (k : IntKind) (w : World) (a : Option Addr) (len cap : Nat) (A : Nat → Option Addr) (L C : Nat → Nat) (Z : Nat → List Int) : Prop :=
  (a = none ∧ len = 0 ∧ cap = 0) ∨
  ∃ x, a = some x ∧ len ≤ cap ∧ ∀ r, r < cap → w.cell? (x.add r) = some (.slice (A r) (L r) (C r)) ∧ L r ≤ C r ∧ C r ≤ maxLen ∧ (Z r).length = C r ∧ (∀ n ∈ Z r, (Lit.int k n).wf = true) ∧ (A r = none → C r = 0) ∧
        ∀ a', A r = some a' → 0 ≤ a'.block ∧ ∀ c, c < C r → w.cell? (a'.add c) = some (.int k ((Z r).getD c 0))

theorem cells_plain {w : World} {x : Addr} {n : Nat} {f : Nat → Value} (h0 : 0 < n) (h : ∀ i, i < n → w.cell? (x.add i) = some (f i)) : ∃ b o, x = ⟨b, o, none⟩ ∧ b < w.heap.size ∧ ∀ i, i < n → w.cell? ⟨b, o + i, none⟩ = some (f i) := by
  obtain ⟨b, o, spot⟩ := x
  have hspot : spot = none := by simpa [Addr.add] using World.cell?_spot (h 0 h0)
  subst hspot
  have hc : ∀ i, i < n → w.cell? ⟨b, o + i, none⟩ = some (f i) := fun i hi => by rw [← add_plain]; exact h i hi
  exact ⟨b, o, rfl, World.block_lt_of_cell? _ _ (hc 0 h0), hc⟩

theorem u64_nat {n : Int} (h : (Lit.int .u64 n).wf = true) : n = (n.toNat : Int) := by
  have := bounds_u64 h
  omega

theorem getD_wf {k : IntKind} {zs : List Int} (h : ∀ n ∈ zs, (Lit.int k n).wf = true) {i : Nat} (hi : i < zs.length) : (Lit.int k (zs.getD i 0)).wf = true := by
  rw [List.getD_eq_getElem?_getD, List.getElem?_eq_getElem hi]
  exact h _ (List.getElem_mem hi)

theorem arg_of {w : World} {ja sa ba qa : Option Addr} {jl jc sl sc bl bc ql qc : Nat} {z2 z3 : List Int} {bA : Nat → Option Addr} {bL bC : Nat → Nat} {bZ : Nat → List Int} {qA : Nat → Option Addr} {qL qC : Nat → Nat} {qZ : Nat → List Int}
    (hJ : IsRow .i64 w ja jl jc z2) (hS : IsRow .u64 w sa sl sc z3) (hB : IsRows .i64 w ba bl bc bA bL bC bZ) (hQ : IsRows .u64 w qa ql qc qA qL qC qZ) :
    Arg w w.heap.size ja sa ba qa jl sl bl ql (fun i => z2.getD i 0) (fun i => (z3.getD i 0).toNat) bA bL bC qA qL qC (fun i k => (bZ i).getD k 0) (fun i k => ((qZ i).getD k 0).toNat) :=
  { cJ := fun h0 => by
      rcases hJ with ⟨_, h, _⟩ | ⟨x, rfl, h1, h2, h3, h4, h5⟩
      · omega
      · obtain ⟨b, o, rfl, hb, hc⟩ := cells_plain (n := jl) (f := fun i => .int .i64 (z2.getD i 0)) h0 (fun i hi => h4 i (by omega))
        exact ⟨b, o, rfl, hb, hc⟩
    cS := fun h0 => by
      rcases hS with ⟨_, h, _⟩ | ⟨x, rfl, h1, h2, h3, h4, h5⟩
      · omega
      · obtain ⟨b, o, rfl, hb, hc⟩ := cells_plain (n := sl) (f := fun i => .int .u64 (z3.getD i 0)) h0 (fun i hi => h4 i (by omega))
        exact ⟨b, o, rfl, hb, fun i hi => by rw [hc i hi]; exact congrArg (fun z => some (Value.int .u64 z)) (u64_nat (getD_wf h5 (by omega)))⟩
    cB := ⟨fun h0 => by
      rcases hB with ⟨_, h, _⟩ | ⟨x, rfl, h1, h2⟩
      · omega
      · obtain ⟨b, o, rfl, hb, hc⟩ := cells_plain (n := bl) (f := fun i => .slice (bA i) (bL i) (bC i)) h0 (fun i hi => (h2 i (by omega)).1)
        exact ⟨b, o, rfl, hb, hc⟩⟩
    cQ := ⟨fun h0 => by
      rcases hQ with ⟨_, h, _⟩ | ⟨x, rfl, h1, h2⟩
      · omega
      · obtain ⟨b, o, rfl, hb, hc⟩ := cells_plain (n := ql) (f := fun i => .slice (qA i) (qL i) (qC i)) h0 (fun i hi => (h2 i (by omega)).1)
        exact ⟨b, o, rfl, hb, hc⟩⟩
    cX := fun i hi h0 => by
      rcases hB with ⟨_, h, _⟩ | ⟨x, rfl, h1, h2⟩
      · omega
      · obtain ⟨_, r1, r2, r3, r4, r5, r6⟩ := h2 i (by omega)
        cases ha : bA i with
        | none => have := r5 ha; omega
        | some a =>
          obtain ⟨b, o, rfl, hb, hc⟩ := cells_plain (n := bL i) (f := fun k => .int .i64 ((bZ i).getD k 0)) h0 (fun k hk => (r6 a ha).2 k (by omega))
          exact ⟨b, o, rfl, hb, hc⟩
    cY := fun i hi h0 => by
      rcases hQ with ⟨_, h, _⟩ | ⟨x, rfl, h1, h2⟩
      · omega
      · obtain ⟨_, r1, r2, r3, r4, r5, r6⟩ := h2 i (by omega)
        cases ha : qA i with
        | none => have := r5 ha; omega
        | some a =>
          obtain ⟨b, o, rfl, hb, hc⟩ := cells_plain (n := qL i) (f := fun k => .int .u64 ((qZ i).getD k 0)) h0 (fun k hk => (r6 a ha).2 k (by omega))
          exact ⟨b, o, rfl, hb, fun k hk => by rw [hc k hk]; exact congrArg (fun z => some (Value.int .u64 z)) (u64_nat (getD_wf r4 (by omega)))⟩ }

end Go.Proofs.Qxb6605249a

/-
  THE WALK OF sameLists (13).
-/
import Derived.Test.Qxb6600486aClasses
import Derived.BigQuiet
set_option linter.unusedVariables false
set_option linter.unusedSimpArgs false
namespace Go.Proofs.Qxb6600486a
open Go.RowKit

/-- A list of lists in memory. -/
structure LL (w : World) (v : Value) (K : Nat) (ln : Nat → Nat) (C : Nat → Nat → Nat) : Prop where
  at_ : ∃ oa oc, v = .slice oa K oc ∧ (0 < K → ∃ ob oo, oa = some ⟨ob, oo, none⟩ ∧ ∀ c, c < K → ∃ b o cap, w.cell? ⟨ob, oo + c, none⟩ = some (.slice (some ⟨b, o, none⟩) (ln c) cap) ∧ Seg w b o (ln c) (fun i => iv (C c i)))

theorem LL.below {w w' : World} {v : Value} {K : Nat} {ln : Nat → Nat} {C : Nat → Nat → Nat} (h : LL w v K ln C) (hb : Below w.heap.size w w') (h1 : ∀ c, c < K → 0 < ln c) : LL w' v K ln C := by
  obtain ⟨oa, oc, e, h2⟩ := h.at_
  refine ⟨oa, oc, e, fun hK => ?_⟩
  obtain ⟨ob, oo, e2, h3⟩ := h2 hK
  refine ⟨ob, oo, e2, fun c hc => ?_⟩
  obtain ⟨b, o, cap, h4, h5⟩ := h3 c hc
  refine ⟨b, o, cap, ?_, seg_below h5 (World.block_lt_of_cell? _ _ (h5 0 (h1 c hc))) hb⟩
  rw [hb.cell (p := ⟨ob, oo + c, none⟩) (World.block_lt_of_cell? _ _ h4)]; exact h4

theorem ll_of {w w' : World} {v : Value} {K : Nat} {cb co cc ln : Nat → Nat} {C : Nat → Nat → Nat} (h : AppV w 22 v K (fun c => .slice (some ⟨cb c, co c, none⟩) (ln c) (cc c))) (hc : ∀ c, c < K → Seg w (cb c) (co c) (ln c) (fun i => iv (C c i))) : LL w v K ln C := by
  rcases h with ⟨h1, h2⟩ | ⟨b, o, cap, h1, h2⟩
  · exact ⟨none, 0, by rw [h1, h2], fun h => by omega⟩
  · exact ⟨_, _, h1, fun _ => ⟨b, o, rfl, fun c hc' => ⟨_, _, _, h2.seg c hc', hc c hc'⟩⟩⟩

set_option maxRecDepth 100000 in
set_option maxHeartbeats 4000000 in
theorem same_any (w : World) (u v : Value) (K : Nat) (ln : Nat → Nat) (C : Nat → Nat → Nat) (hu : LL w u K ln C) (hv : LL w v K ln C) (hK : K ≤ 100000) (hl : ∀ c, c < K → ln c ≤ 100000) :
    Calls Try.prog 13 #[u, v] w fun e w' => e = .returned (.bool true) ∧ ∃ q, w' = w.drewN q := by
  obtain ⟨ua, uc, eu, hu2⟩ := hu.at_
  obtain ⟨va, vc, ev, hv2⟩ := hv.at_
  subst eu ev
  have HU : Hid (0 < K → ∃ ob oo, ua = some ⟨ob, oo, none⟩ ∧ ∀ c, c < K → ∃ b o cap, w.cell? ⟨ob, oo + c, none⟩ = some (.slice (some ⟨b, o, none⟩) (ln c) cap) ∧ Seg w b o (ln c) (fun i => iv (C c i))) := hu2
  have HV : Hid (0 < K → ∃ ob oo, va = some ⟨ob, oo, none⟩ ∧ ∀ c, c < K → ∃ b o cap, w.cell? ⟨ob, oo + c, none⟩ = some (.slice (some ⟨b, o, none⟩) (ln c) cap) ∧ Seg w b o (ln c) (fun i => iv (C c i))) := hv2
  have HL : Hid (∀ c, c < K → ln c ≤ 100000) := hl
  clear hu hv hl hu2 hv2
  go_enter Try.func13, Try.ntmps13
  go_wp2_with fail
  go_loopg [5] K (fun gk t wr => ∃ c : Nat, c + gk = K ∧ t = .int .i64 c ∧ ∃ q, wr = w.drewN q)
  case atStart => exact ⟨0, by omega, rfl, 0, rfl⟩
  case round =>
    obtain ⟨c, hc, rfl, q, rfl⟩ := hrel
    by_cases hlt : c < K
    · have hlt' : (c : Int) < (K : Int) := by omega
      obtain ⟨ob, oo, eu, hu⟩ := HU.out (by omega)
      obtain ⟨pb, po, ev, hv⟩ := HV.out (by omega)
      subst eu ev
      obtain ⟨b, o, cap, u1, u2⟩ := hu c hlt
      obtain ⟨b', o', cap', v1, v2⟩ := hv c hlt
      have hlc := HL.out c hlt
      obtain ⟨len, hlen⟩ : ∃ len, len = ln c := ⟨_, rfl⟩
      obtain ⟨f, hf⟩ : ∃ f, f = C c := ⟨_, rfl⟩
      rw [← hlen] at u1 u2 v1 v2 hlc
      rw [← hf] at u2 v2
      obtain ⟨wq, hwq⟩ : ∃ u, u = w.drewN q := ⟨_, rfl⟩
      rw [← hwq]
      have x1 : wq.cell? ⟨ob, oo + c, none⟩ = some (.slice (some ⟨b, o, none⟩) len cap) := by rw [hwq]; exact u1
      have x2 : wq.cell? ⟨pb, po + c, none⟩ = some (.slice (some ⟨b', o', none⟩) len cap') := by rw [hwq]; exact v1
      have X3 : Hid (Seg wq b o len (fun i => iv (f i)) ∧ Seg wq b' o' len (fun i => iv (f i)) ∧ wq = w.drewN q) := ⟨by rw [hwq]; exact u2, by rw [hwq]; exact v2, hwq⟩
      clear hu hv u1 u2 v1 v2 hlen hf hwq
      go_wp2_with fail
      go_quiet (fail)
      obtain ⟨Gk, hG⟩ : ∃ g, g = gk := ⟨_, rfl⟩
      subst hG
      go_wp2_with fail
      go_loopg [6] len (fun gk t wr => ∃ i : Nat, i + gk = len ∧ t = .int .i64 i ∧ ∃ q, wr = wq.drewN q)
      case atStart => exact ⟨0, by omega, rfl, nq, rfl⟩
      case round =>
        obtain ⟨i, hi, rfl, q2, rfl⟩ := hrel
        obtain ⟨wz, hwz⟩ : ∃ u, u = wq.drewN q2 := ⟨_, rfl⟩
        rw [← hwz]
        have y1 : wz.cell? ⟨ob, oo + c, none⟩ = some (.slice (some ⟨b, o, none⟩) len cap) := by rw [hwz]; exact x1
        have y2 : wz.cell? ⟨pb, po + c, none⟩ = some (.slice (some ⟨b', o', none⟩) len cap') := by rw [hwz]; exact x2
        have HZ : Hid (wz = wq.drewN q2) := hwz
        by_cases hil : i < len
        · have hil' : (i : Int) < (len : Int) := by omega
          have y3 : wz.cell? ⟨b, o + i, none⟩ = some (.int .i64 (f i : Int)) := by rw [hwz]; exact X3.out.1 i hil
          have y4 : wz.cell? ⟨b', o' + i, none⟩ = some (.int .i64 (f i : Int)) := by rw [hwz]; exact X3.out.2.1 i hil
          clear hwz x1 x2
          go_wp2_with fail
          go_quiet (fail)
          go_wp2_with fail
          go_roundg (gk - 1)
          case measure => omega
          case rel => exact ⟨i + 1, by omega, by go_num, q2 + nq, by rw [HZ.out]; simp⟩
        · have hil' : ¬ (i : Int) < (len : Int) := by omega
          clear hwz x1 x2
          go_wp2_with fail
          go_roundg (Gk - 1)
          case measure => omega
          case rel => exact ⟨c + 1, by omega, by go_num, q + q2, by rw [HZ.out, X3.out.2.2]; simp⟩
    · have hlt' : ¬ (c : Int) < (K : Int) := by omega
      go_wp2_with fail
      go_ret
      exact ⟨rfl, q, rfl⟩

end Go.Proofs.Qxb6600486a

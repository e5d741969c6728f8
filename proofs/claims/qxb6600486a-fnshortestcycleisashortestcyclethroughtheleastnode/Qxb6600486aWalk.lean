/-
  THE WALK OF closedWalk (16).
-/
import Derived.Test.Qxb6600486aScan
set_option linter.unusedVariables false
set_option linter.unusedSimpArgs false
namespace Go.Proofs.Qxb6600486a
open Go.RowKit

/-- A walk of k edges from s to v, all of whose nodes behind s are marked in ic. -/
def Wk (A : Nat → Nat → Prop) (ic : Nat → Bool) (s : Nat) : Nat → Nat → Prop
  | 0, v => v = s
  | k + 1, v => ic v = true ∧ ∃ u, Wk A ic s k u ∧ A u v

theorem Wk.lt {A : Nat → Nat → Prop} {ic : Nat → Bool} {s n : Nat} (hA : ∀ u x, u < n → A u x → x < n) (hs : s < n) : ∀ k v, Wk A ic s k v → v < n
  | 0, v, h => by have h' : v = s := h
                  rw [h']; exact hs
  | k + 1, v, h => by
    obtain ⟨_, u, hu, ha⟩ := h
    exact hA u v (Wk.lt hA hs k u hu) ha

structure WS (w : World) (B0 n cb xb : Nat) (wr : World) (cu nx : Nat → Bool) : Prop where
  cur : wr.rowIs cb 4 n (fun i => .bool (cu i))
  nxt : wr.rowIs xb 4 n (fun i => .bool (nx i))
  oth : ∀ b, b ≠ cb → b ≠ xb → wr.heap[b]? = w.heap[b]?
  sz : wr.heap.size = w.heap.size
  bel : Below B0 w wr

theorem WS.setC {w : World} {B0 n cb xb : Nat} {wr : World} {cu nx : Nat → Bool} (h : WS w B0 n cb xb wr cu nx) (hne : cb ≠ xb) (hc : B0 ≤ cb) (v : Nat) (b : Bool) : WS w B0 n cb xb (wr.setCell ⟨cb, v, none⟩ (.bool b)) (upd cu v b) nx :=
  { cur := (h.cur.set v (.bool b)).congr fun i hi => by
      show (if i = v then Value.bool b else Value.bool (cu i)) = Value.bool (upd cu v b i)
      unfold upd
      split <;> rfl
    nxt := h.nxt.setOther (by simpa using Ne.symm hne) _
    oth := fun x h1 h2 => by rw [heap_setCell_other _ _ _ _ (by simpa using h1)]; exact h.oth x h1 h2
    sz := by simpa [World.setCell] using h.sz
    bel := h.bel.setCell (p := ⟨cb, v, none⟩) hc _ }

theorem WS.setX {w : World} {B0 n cb xb : Nat} {wr : World} {cu nx : Nat → Bool} (h : WS w B0 n cb xb wr cu nx) (hne : cb ≠ xb) (hx : B0 ≤ xb) (v : Nat) (b : Bool) : WS w B0 n cb xb (wr.setCell ⟨xb, v, none⟩ (.bool b)) cu (upd nx v b) :=
  { cur := h.cur.setOther (by simpa using hne) _
    nxt := (h.nxt.set v (.bool b)).congr fun i hi => by
      show (if i = v then Value.bool b else Value.bool (nx i)) = Value.bool (upd nx v b i)
      unfold upd
      split <;> rfl
    oth := fun x h1 h2 => by rw [heap_setCell_other _ _ _ _ (by simpa using h2)]; exact h.oth x h1 h2
    sz := by simpa [World.setCell] using h.sz
    bel := h.bel.setCell (p := ⟨xb, v, none⟩) hx _ }

/-- What closedWalk answers. -/
def WalkR (A : Nat → Nat → Prop) (ic : Nat → Bool) (s size r : Nat) : Prop :=
  (r = 0 ∧ ∀ k, 1 ≤ k → k ≤ size → ¬ Wk A ic s k s) ∨ (1 ≤ r ∧ r ≤ size ∧ Wk A ic s r s ∧ ∀ k, 1 ≤ k → k < r → ¬ Wk A ic s k s)

def WalkQ (w : World) (B0 n cb xb : Nat) (A : Nat → Nat → Prop) (ic : Nat → Bool) (s size : Nat) (e : Ending) (w' : World) : Prop :=
  ∃ r : Nat, e = .returned (.int .i64 r) ∧ WalkR A ic s size r ∧ ∃ cu nx, WS w B0 n cb xb w' cu nx

set_option maxRecDepth 100000 in
set_option maxHeartbeats 4000000 in
theorem closedWalk_any (w : World) (B0 fb gb n m ib cb xb s size : Nat) (A : Nat → Nat → Prop) (F G : Nat → Nat) (ic cu0 nx0 : Nat → Bool) (hR : Rows w fb gb n m F G) (hC : CSR n m A F G) (hA : ∀ u x, u < n → A u x → x < n) (hn : n ≤ 4096) (hm : m ≤ 4096) (hs : s < n) (hsz : size ≤ 4096)
    (hic : w.rowIs ib 4 n (fun i => .bool (ic i))) (hcu : w.rowIs cb 4 n (fun i => .bool (cu0 i))) (hnx : w.rowIs xb 4 n (fun i => .bool (nx0 i)))
    (hne : cb ≠ xb) (n1 : fb ≠ cb) (n2 : fb ≠ xb) (n3 : gb ≠ cb) (n4 : gb ≠ xb) (n5 : ib ≠ cb) (n6 : ib ≠ xb) (hc0 : B0 ≤ cb) (hx0 : B0 ≤ xb) :
    Calls Try.prog 16 #[.int .i64 n, .slice (some ⟨fb, 0, none⟩) (n + 1) (n + 1), .slice (some ⟨gb, 0, none⟩) m m, .slice (some ⟨ib, 0, none⟩) n n, .int .i64 s, .int .i64 size, .slice (some ⟨cb, 0, none⟩) n n, .slice (some ⟨xb, 0, none⟩) n n] w fun e w' => WalkQ w B0 n cb xb A ic s size e w' := by
  have h0 : WS w B0 n cb xb w cu0 nx0 := { cur := hcu, nxt := hnx, oth := fun _ _ _ => rfl, sz := rfl, bel := Below.refl _ _ }
  have rF : ∀ wr cu nx, WS w B0 n cb xb wr cu nx → ∀ v, v < n + 1 → wr.cell? ⟨fb, v, none⟩ = some (.int .i64 (F v)) := fun wr cu nx h v hv => (hR.f.of_block (h.oth fb n1 n2)).cell hv
  have rG : ∀ wr cu nx, WS w B0 n cb xb wr cu nx → ∀ e, e < m → wr.cell? ⟨gb, e, none⟩ = some (.int .i64 (G e)) := fun wr cu nx h e he => (hR.g.of_block (h.oth gb n3 n4)).cell he
  have rI : ∀ wr cu nx, WS w B0 n cb xb wr cu nx → ∀ v, v < n → wr.cell? ⟨ib, v, none⟩ = some (.bool (ic v)) := fun wr cu nx h v hv => (hic.of_block (h.oth ib n5 n6)).cell hv
  have HRd := (show Hid ((∀ wr cu nx, WS w B0 n cb xb wr cu nx → ∀ v, v < n + 1 → wr.cell? ⟨fb, v, none⟩ = some (.int .i64 (F v))) ∧ (∀ wr cu nx, WS w B0 n cb xb wr cu nx → ∀ e, e < m → wr.cell? ⟨gb, e, none⟩ = some (.int .i64 (G e))) ∧ (∀ wr cu nx, WS w B0 n cb xb wr cu nx → ∀ v, v < n → wr.cell? ⟨ib, v, none⟩ = some (.bool (ic v)))) from ⟨rF, rG, rI⟩)
  have H0 := (show Hid (WS w B0 n cb xb w cu0 nx0) from h0)
  have HC : Hid (CSR n m A F G) := hC
  have HA := (show Hid (∀ u x, u < n → A u x → x < n) from hA)
  have hs' : (s : Int) < (n : Int) := by omega
  have HS := (show Hid (∀ k v, Wk A ic s k v → v < n) from fun k v h => Wk.lt hA hs k v h)
  clear h0 rF rG rI hR hC hA hic hcu hnx n1 n2 n3 n4 n5 n6
  go_enter Try.func16, Try.ntmps16
  go_wp2_with fail
  go_loopg [17] n (fun gk t wr => ∃ v : Nat, v + gk = n ∧ t = .int .i64 v ∧ ∃ cu nx, WS w B0 n cb xb wr cu nx ∧ ∀ x, x < v → cu x = false)
  case atStart => exact ⟨0, by omega, rfl, _, _, H0.out, fun x hx => by omega⟩
  case round =>
    clear H0
    obtain ⟨v, hv, rfl, cu, nx, hst, hcl⟩ := hrel
    by_cases hlt : v < n
    · have hlt' : (v : Int) < (n : Int) := by omega
      have c1 := hst.cur.cell hlt
      have c2 := hst.cur.frozen v
      have HX : Hid (WS w B0 n cb xb wr cu nx ∧ ∀ x, x < v → cu x = false) := ⟨hst, hcl⟩
      clear hst hcl
      go_wp2_with fail
      go_roundg (gk - 1)
      case measure => omega
      case rel => exact ⟨v + 1, by omega, by go_num, _, nx, HX.out.1.setC hne hc0 v false, fun x hx => by
          by_cases e : x = v
          · rw [e, upd_same]
          · rw [upd_ne e]; exact HX.out.2 x (by omega)⟩
    · have hlt' : ¬ (v : Int) < (n : Int) := by omega
      have e : v = n := by omega
      subst e
      have c1 := hst.cur.cell hs
      have c2 := hst.cur.frozen s
      have HW : Hid (∃ cu nx, WS w B0 v cb xb (wr.setCell ⟨cb, s, none⟩ (.bool true)) cu nx ∧ ∀ x, x < v → (cu x = true ↔ Wk A ic s 0 x)) := ⟨_, _, hst.setC hne hc0 s true, fun x hx => by
          show _ ↔ x = s
          by_cases e : x = s
          · rw [e, upd_same]; simp
          · rw [upd_ne e, hcl x hx]; simp [e]⟩
      clear hst hcl hlt hlt' hv
      go_wp2_with fail
      go_loopg [18] size (fun gk t wr => ∃ k : Nat, k + gk = size ∧ t = .int .i64 ((k : Int) + 1) ∧ (∃ cu nx, WS w B0 v cb xb wr cu nx ∧ ∀ x, x < v → (cu x = true ↔ Wk A ic s k x)) ∧ ∀ j, 1 ≤ j → j ≤ k → ¬ Wk A ic s j s)
      case atStart => exact ⟨0, by omega, rfl, HW.out, fun j h1 h2 => by omega⟩
      case round =>
        clear HW
        obtain ⟨k, hk, rfl, ⟨cu, nx, hst, hcu⟩, hno⟩ := hrel
        by_cases hkl : k < size
        case neg =>
          have hkl' : ¬ (k : Int) + 1 ≤ (size : Int) := by omega
          have HX : Hid ((∃ cu nx, WS w B0 v cb xb wr cu nx) ∧ ∀ j, 1 ≤ j → j ≤ size → ¬ Wk A ic s j s) := ⟨⟨cu, nx, hst⟩, fun j h1 h2 => hno j h1 (by omega)⟩
          clear hst hcu hno
          go_wp2_with fail
          go_ret
          exact ⟨0, rfl, .inl ⟨rfl, HX.out.2⟩, HX.out.1⟩
        have hkl' : (k : Int) + 1 ≤ (size : Int) := by omega
        have HX : Hid (WS w B0 v cb xb wr cu nx ∧ (∀ x, x < v → (cu x = true ↔ Wk A ic s k x)) ∧ ∀ j, 1 ≤ j → j ≤ k → ¬ Wk A ic s j s) := ⟨hst, hcu, hno⟩
        clear hst hcu hno
        obtain ⟨Gk, hG⟩ : ∃ g, g = gk := ⟨_, rfl⟩
        subst hG
        go_wp2_with fail
        go_loopg [19] v (fun gk t wr => ∃ y : Nat, y + gk = v ∧ t = .int .i64 y ∧ ∃ nx, WS w B0 v cb xb wr cu nx ∧ ∀ x, x < y → nx x = false)
        case atStart => exact ⟨0, by omega, rfl, nx, HX.out.1, fun x hx => by omega⟩
        case round =>
          obtain ⟨y, hy, rfl, nx1, hst, hcl⟩ := hrel
          by_cases hlt : y < v
          · have hlt' : (y : Int) < (v : Int) := by omega
            have c1 := hst.nxt.cell hlt
            have c2 := hst.nxt.frozen y
            have HY : Hid (WS w B0 v cb xb wr cu nx1 ∧ ∀ x, x < y → nx1 x = false) := ⟨hst, hcl⟩
            clear hst hcl
            go_wp2_with fail
            go_roundg (gk - 1)
            case measure => omega
            case rel => exact ⟨y + 1, by omega, by go_num, _, HY.out.1.setX hne hx0 y false, fun x hx => by
                by_cases e : x = y
                · rw [e, upd_same]
                · rw [upd_ne e]; exact HY.out.2 x (by omega)⟩
          · have hlt' : ¬ (y : Int) < (v : Int) := by omega
            have e : y = v := by omega
            subst e
            have HY : Hid (WS w B0 y cb xb wr cu nx1 ∧ ∀ x, x < y → (nx1 x = true ↔ ∃ u, u < 0 ∧ cu u = true ∧ A u x ∧ ic x = true)) := ⟨hst, fun x hx => by rw [hcl x hx]; simp⟩
            clear hst hcl hlt hlt' hy
            go_wp2_with fail
            go_loopg [20] y (fun gk t wr => ∃ z : Nat, z + gk = y ∧ t = .int .i64 z ∧ ∃ nx, WS w B0 y cb xb wr cu nx ∧ ∀ x, x < y → (nx x = true ↔ ∃ u, u < z ∧ cu u = true ∧ A u x ∧ ic x = true))
            case atStart => exact ⟨0, by omega, rfl, nx1, HY.out⟩
            case round =>
              clear HY
              obtain ⟨z, hz, rfl, nx2, hst, hnx⟩ := hrel
              by_cases hlt : z < y
              · have hlt' : (z : Int) < (y : Int) := by omega
                have c1 := hst.cur.cell hlt
                have HZ : Hid (WS w B0 y cb xb wr cu nx2 ∧ ∀ x, x < y → (nx2 x = true ↔ ∃ u, u < z ∧ cu u = true ∧ A u x ∧ ic x = true)) := ⟨hst, hnx⟩
                cases hcz : cu z with
                | false =>
                  rw [hcz] at c1
                  have HCZ : Hid (cu z = false) := hcz
                  clear hcz hst hnx
                  go_wp2_with fail
                  go_roundg (gk - 1)
                  case measure => omega
                  case rel => exact ⟨z + 1, by omega, by go_num, nx2, HZ.out.1, fun x hx => by
                      rw [HZ.out.2 x hx]
                      constructor
                      · rintro ⟨u, h1, h2⟩; exact ⟨u, by omega, h2⟩
                      · rintro ⟨u, h1, h2, h3⟩
                        by_cases e : u = z
                        · rw [e, HCZ.out] at h2; cases h2
                        · exact ⟨u, by omega, h2, h3⟩⟩
                | true =>
                  rw [hcz] at c1
                  have HCZ : Hid (cu z = true) := hcz
                  have c2 := HRd.out.1 wr _ _ hst z (by omega)
                  have t2 := HC.out.top (z + 1) (by omega)
                  have t3 := HC.out.mono z hlt
                  obtain ⟨f0, hf0⟩ : ∃ f0, f0 = F z := ⟨_, rfl⟩
                  obtain ⟨f1, hf1⟩ : ∃ f1, f1 = F (z + 1) := ⟨_, rfl⟩
                  rw [← hf0] at c2 t3
                  rw [← hf1] at t2 t3
                  have HF : Hid (f0 = F z ∧ f1 = F (z + 1)) := ⟨hf0, hf1⟩
                  have hz1 : (z : Int) < (y : Int) + 1 := by omega
                  have hz2 : (z : Int) + 1 < (y : Int) + 1 := by omega
                  clear hcz hst hnx hf0 hf1
                  obtain ⟨Gz, hG⟩ : ∃ g, g = gk := ⟨_, rfl⟩
                  subst hG
                  go_wp2_with fail
                  go_loopg [21] (f1 - f0) (fun gk t wr => ∃ e : Nat, e + gk = f1 ∧ f0 ≤ e ∧ t = .int .i64 e ∧ ∃ nx, WS w B0 y cb xb wr cu nx ∧ ∀ x, x < y → (nx x = true ↔ (∃ u, u < z ∧ cu u = true ∧ A u x ∧ ic x = true) ∨ (ic x = true ∧ ∃ e', f0 ≤ e' ∧ e' < e ∧ G e' = x)))
                  case atStart => exact ⟨f0, by omega, by omega, rfl, nx2, HZ.out.1, fun x hx => by
                      rw [HZ.out.2 x hx]
                      constructor
                      · exact .inl
                      · rintro (h | ⟨_, e', h1, h2, _⟩)
                        · exact h
                        · omega⟩
                  case round =>
                    clear HZ
                    obtain ⟨e, he, he0, rfl, nx3, hst, hnx⟩ := hrel
                    have c3 := HRd.out.1 wr _ _ hst (z + 1) (by omega)
                    rw [← HF.out.2] at c3
                    by_cases hlt2 : e < f1
                    · have hlt2' : (e : Int) < (f1 : Int) := by omega
                      have hem : (e : Int) < (m : Int) := by omega
                      have c4 := HRd.out.2.1 wr _ _ hst e (by omega)
                      have hsd := HC.out.snd z hlt e (by rw [← HF.out.1]; exact he0) (by rw [← HF.out.2]; exact hlt2)
                      obtain ⟨p, hp⟩ : ∃ p, p = G e := ⟨_, rfl⟩
                      rw [← hp] at c4 hsd
                      have hpn := hsd.1
                      have hpn' : (p : Int) < (y : Int) := by omega
                      have c5 := HRd.out.2.2 wr _ _ hst p hpn
                      have c6 := hst.nxt.cell hpn
                      have c7 := hst.nxt.frozen p
                      have HE : Hid (WS w B0 y cb xb wr cu nx3 ∧ (∀ x, x < y → (nx3 x = true ↔ (∃ u, u < z ∧ cu u = true ∧ A u x ∧ ic x = true) ∨ (ic x = true ∧ ∃ e', f0 ≤ e' ∧ e' < e ∧ G e' = x))) ∧ p = G e) := ⟨hst, hnx, hp⟩
                      clear hst hnx hp hsd
                      cases hi : ic p with
                      | false =>
                        rw [hi] at c5
                        have HI : Hid (ic p = false) := hi
                        clear hi
                        go_wp2_with fail
                        go_roundg (gk - 1)
                        case measure => omega
                        case rel => exact ⟨e + 1, by omega, by omega, by go_num, nx3, HE.out.1, fun x hx => by
                            rw [HE.out.2.1 x hx]
                            constructor
                            · rintro (h | ⟨h0, e', h1, h2, h3⟩)
                              · exact .inl h
                              · exact .inr ⟨h0, e', h1, by omega, h3⟩
                            · rintro (h | ⟨h0, e', h1, h2, h3⟩)
                              · exact .inl h
                              · by_cases ee : e' = e
                                · rw [ee, ← HE.out.2.2] at h3
                                  rw [← h3, HI.out] at h0; cases h0
                                · exact .inr ⟨h0, e', h1, by omega, h3⟩⟩
                      | true =>
                        rw [hi] at c5
                        have HI : Hid (ic p = true) := hi
                        clear hi
                        go_wp2_with fail
                        go_roundg (gk - 1)
                        case measure => omega
                        case rel => exact ⟨e + 1, by omega, by omega, by go_num, _, HE.out.1.setX hne hx0 p true, fun x hx => by
                            by_cases ep : x = p
                            · rw [ep, upd_same]
                              exact ⟨fun _ => .inr ⟨HI.out, e, he0, by omega, HE.out.2.2.symm⟩, fun _ => rfl⟩
                            · rw [upd_ne ep, HE.out.2.1 x hx]
                              constructor
                              · rintro (h | ⟨h0, e', h1, h2, h3⟩)
                                · exact .inl h
                                · exact .inr ⟨h0, e', h1, by omega, h3⟩
                              · rintro (h | ⟨h0, e', h1, h2, h3⟩)
                                · exact .inl h
                                · by_cases ee : e' = e
                                  · rw [ee, ← HE.out.2.2] at h3
                                    exact absurd h3.symm ep
                                  · exact .inr ⟨h0, e', h1, by omega, h3⟩⟩
                    · have hlt2' : ¬ (e : Int) < (f1 : Int) := by omega
                      have ee : e = f1 := by omega
                      have HE : Hid (WS w B0 y cb xb wr cu nx3 ∧ (∀ x, x < y → (nx3 x = true ↔ (∃ u, u < z ∧ cu u = true ∧ A u x ∧ ic x = true) ∨ (ic x = true ∧ ∃ e', f0 ≤ e' ∧ e' < f1 ∧ G e' = x)))) := ⟨hst, by rw [← ee]; exact hnx⟩
                      clear hst hnx ee
                      go_wp2_with fail
                      go_roundg (Gz - 1)
                      case measure => omega
                      case rel => exact ⟨z + 1, by omega, by go_num, nx3, HE.out.1, fun x hx => by
                          rw [HE.out.2 x hx]
                          constructor
                          · rintro (⟨u, h1, h2⟩ | ⟨h0, e', h1, h2, h3⟩)
                            · exact ⟨u, by omega, h2⟩
                            · refine ⟨z, by omega, HCZ.out, ?_, h0⟩
                              have := (HC.out.snd z hlt e' (by rw [← HF.out.1]; exact h1) (by rw [← HF.out.2]; exact h2)).2
                              rw [h3] at this
                              exact this
                          · rintro ⟨u, h1, h2, h3, h4⟩
                            by_cases eu : u = z
                            · rw [eu] at h3
                              obtain ⟨e', g1, g2, g3⟩ := HC.out.cmp z hlt x h3
                              exact .inr ⟨h4, e', by rw [HF.out.1]; exact g1, by rw [HF.out.2]; exact g2, g3⟩
                            · exact .inl ⟨u, by omega, h2, h3, h4⟩⟩
              · have hlt' : ¬ (z : Int) < (y : Int) := by omega
                have e : z = y := by omega
                subst e
                have hwk : ∀ x, x < z → (nx2 x = true ↔ Wk A ic s (k + 1) x) := fun x hx => by
                  rw [hnx x hx]
                  constructor
                  · rintro ⟨u, h1, h2, h3, h4⟩
                    exact ⟨h4, u, (HX.out.2.1 u h1).1 h2, h3⟩
                  · rintro ⟨h4, u, h2, h3⟩
                    have hu := HS.out k u h2
                    exact ⟨u, hu, (HX.out.2.1 u hu).2 h2, h3, h4⟩
                have c1 := hst.nxt.cell hs
                have HY : Hid (WS w B0 z cb xb wr cu nx2 ∧ ∀ x, x < z → (nx2 x = true ↔ Wk A ic s (k + 1) x)) := ⟨hst, hwk⟩
                clear hst hnx hwk hlt hlt' hz
                cases hns : nx2 s with
                | true =>
                  rw [hns] at c1
                  have HN : Hid (Wk A ic s (k + 1) s) := (HY.out.2 s hs).1 hns
                  clear hns
                  go_wp2_with fail
                  go_ret
                  exact ⟨k + 1, rfl, .inr ⟨by omega, by omega, HN.out, fun j h1 h2 => HX.out.2.2 j h1 (by omega)⟩, cu, nx2, HY.out.1⟩
                | false =>
                  rw [hns] at c1
                  have HN : Hid (¬ Wk A ic s (k + 1) s) := fun h => by have := (HY.out.2 s hs).2 h; rw [hns] at this; cases this
                  clear hns
                  go_wp2_with fail
                  go_loopg [23] z (fun gk t wr => ∃ y : Nat, y + gk = z ∧ t = .int .i64 y ∧ ∃ cu, WS w B0 z cb xb wr cu nx2 ∧ ∀ x, x < y → cu x = nx2 x)
                  case atStart => exact ⟨0, by omega, rfl, cu, HY.out.1, fun x hx => by omega⟩
                  case round =>
                    obtain ⟨y, hy, rfl, cu2, hst, hcl⟩ := hrel
                    by_cases hlt : y < z
                    · have hlt' : (y : Int) < (z : Int) := by omega
                      have c1 := hst.nxt.cell hlt
                      have c2 := hst.cur.cell hlt
                      have c3 := hst.cur.frozen y
                      have HZ : Hid (WS w B0 z cb xb wr cu2 nx2 ∧ ∀ x, x < y → cu2 x = nx2 x) := ⟨hst, hcl⟩
                      clear hst hcl
                      go_wp2_with fail
                      go_roundg (gk - 1)
                      case measure => omega
                      case rel => exact ⟨y + 1, by omega, by go_num, _, HZ.out.1.setC hne hc0 y (nx2 y), fun x hx => by
                          by_cases e : x = y
                          · rw [e, upd_same]
                          · rw [upd_ne e]; exact HZ.out.2 x (by omega)⟩
                    · have hlt' : ¬ (y : Int) < (z : Int) := by omega
                      have HZ : Hid (WS w B0 z cb xb wr cu2 nx2 ∧ ∀ x, x < z → cu2 x = nx2 x) := ⟨hst, fun x hx => hcl x (by omega)⟩
                      clear hst hcl
                      go_wp2_with fail
                      go_roundg (Gk - 1)
                      case measure => omega
                      case rel => exact ⟨k + 1, by omega, by go_num, ⟨cu2, nx2, HZ.out.1, fun x hx => by rw [HZ.out.2 x hx]; exact HY.out.2 x hx⟩, fun j h1 h2 => by
                          by_cases e : j = k + 1
                          · rw [e]; exact HN.out
                          · exact HX.out.2.2 j h1 (by omega)⟩

end Go.Proofs.Qxb6600486a

/-
  THE WALK OF buildCSR (10).
-/
import Derived.Test.Qxb6600486aScan
set_option linter.unusedVariables false
set_option linter.unusedSimpArgs false
namespace Go.Proofs.Qxb6600486a
open Go.RowKit

/-- Loop 1: the counts. -/
def cnt1 (U : Nat → Nat) (i v : Nat) : Nat := if v = 0 then 0 else cntTo U i (v - 1)
/-- Loop 2: the sums. -/
def sum2 (U : Nat → Nat) (m v x : Nat) : Nat := if x ≤ v then pre U m x else cntTo U m (x - 1)

theorem cnt1_step (U : Nat → Nat) (i v : Nat) : cnt1 U (i + 1) v = if v = U i + 1 then cnt1 U i (U i + 1) + 1 else cnt1 U i v := by
  unfold cnt1
  by_cases h0 : v = 0
  · subst h0; simp
  · rw [if_neg h0]
    by_cases e : v = U i + 1
    · subst e; simp [cntTo]
    · rw [if_neg e, if_neg h0, cntTo, if_neg (by omega)]

theorem sum2_start (U : Nat → Nat) (m x : Nat) : cnt1 U m x = sum2 U m 0 x := by
  unfold cnt1 sum2
  by_cases h0 : x = 0
  · subst h0; simp [pre]
  · rw [if_neg h0, if_neg (by omega)]

theorem sum2_step (U : Nat → Nat) (m v x : Nat) : sum2 U m (v + 1) x = if x = v + 1 then sum2 U m v (v + 1) + sum2 U m v v else sum2 U m v x := by
  unfold sum2
  by_cases e : x = v + 1
  · subst e
    rw [if_pos (Nat.le_refl _), if_pos rfl, if_neg (by omega), if_pos (Nat.le_refl _), pre]
    simp
    omega
  · rw [if_neg e]
    by_cases h : x ≤ v
    · rw [if_pos (by omega), if_pos h]
    · rw [if_neg (by omega), if_neg h]

theorem sum2_end (U : Nat → Nat) (m n x : Nat) (h : x < n + 1) : sum2 U m n x = pre U m x := by
  unfold sum2
  rw [if_pos (by omega)]

/-- In the midst of loop 4: what the cells of succ hold. -/
def Half (n m : Nat) (U V : Nat → Nat) (i : Nat) (G : Nat → Nat) : Prop := ∀ v, v < n → ∀ k, k < cntTo U i v → G (pre U m v + k) = V (posTo U i v k)

theorem half_place {n m : Nat} {U : Nat → Nat} (hU : ∀ i, i < m → U i < n) {i : Nat} (hi : i < m) : pre U m (U i) + cntTo U i (U i) < m := by
  have h1 := (posTo_self U hi).2
  have h2 := pre_mono U m (U i + 1) n (hU i hi)
  rw [pre_all U n m hU, pre] at h2
  omega

theorem half_step {n m : Nat} {U V : Nat → Nat} (hU : ∀ i, i < m → U i < n) {i : Nat} {G : Nat → Nat} (h : Half n m U V i G) (hi : i < m) : Half n m U V (i + 1) (upd G (pre U m (U i) + cntTo U i (U i)) (V i)) := fun v hv k hk => by
  by_cases e : v = U i
  · subst e
    by_cases e2 : k = cntTo U i (U i)
    · subst e2
      rw [upd_same, posTo, if_pos ⟨rfl, rfl⟩]
    · rw [cntTo_self] at hk
      rw [upd_ne (by omega), posTo, if_neg (by omega)]
      exact h _ hv k (by omega)
  · have hk' : k < cntTo U i v := by rw [cntTo, if_neg (fun e2 => e e2.symm)] at hk; exact hk
    have h1 := (posTo_self U hi).2
    have h2 := cntTo_mono U v i m (by omega)
    have hne : pre U m v + k ≠ pre U m (U i) + cntTo U i (U i) := by
      rcases Nat.lt_or_ge v (U i) with hlt | hge
      · have := pre_mono U m (v + 1) (U i) hlt
        rw [pre] at this
        omega
      · have := pre_mono U m (U i + 1) v (by omega)
        rw [pre] at this
        omega
    rw [upd_ne hne, posTo, if_neg (fun e2 => e e2.1.symm)]
    exact h v hv k hk'

/-- What buildCSR hands back. -/
def CsrQ (w : World) (n m : Nat) (A : Nat → Nat → Prop) (e : Ending) (w' : World) : Prop :=
  ∃ fb gb F G, e = .returned (.tuple #[.slice (some ⟨fb, 0, none⟩) (n + 1) (n + 1), .slice (some ⟨gb, 0, none⟩) m m]) ∧ Rows w' fb gb n m F G ∧ CSR n m A F G ∧ Below w.heap.size w w'

structure St4 (w : World) (n m fb pb gb : Nat) (U V : Nat → Nat) (i : Nat) (wr : World) (G : Nat → Nat) : Prop where
  f : wr.rowIs fb 3 (n + 1) (fun v => iv (pre U m v))
  p : wr.rowIs pb 3 n (fun v => iv (pre U m v + cntTo U i v))
  g : wr.rowIs gb 3 m (fun e => iv (G e))
  half : Half n m U V i G
  bel : Below w.heap.size w wr


set_option maxRecDepth 100000 in
set_option maxHeartbeats 4000000 in
theorem csr_false (w : World) (B n m l c : Nat) (a : Option Addr) (sx sy : Nat → Nat) (E : Nat → Int) (hE : Ints w B a l E) (hB : B ≤ w.heap.size) (hl : l ≤ 8192) (hm : m = l / 2) (hn : n ≤ 4096)
    (hsx : ∀ i, i < m → E (2 * i) = sx i ∧ sx i < n) (hsy : ∀ i, i < m → E (2 * i + 1) = sy i ∧ sy i < n) :
    Calls Try.prog 10 #[.int .i64 n, .slice a l c, .bool false] w fun e w' => CsrQ w n m (Adj m sx sy) e w' := by
  have hq : (l : Int).tdiv 2 = (m : Int) := by rw [hm]; rfl
  have hml : 2 * m ≤ l := by omega
  have hm2 : m ≤ 4096 := by omega
  have hU : ∀ i, i < m → sx i < n := fun i hi => (hsx i hi).2
  have hW : ∀ i, i < m → sy i < n := fun i hi => (hsy i hi).2
  have hcell : ∀ wr, Below w.heap.size w wr → ∀ i, i < m → ∃ b o, a = some ⟨b, o, none⟩ ∧ b < w.heap.size ∧ wr.cell? ⟨b, o + 2 * i, none⟩ = some (.int .i64 (sx i)) ∧ wr.cell? ⟨b, o + (2 * i + 1), none⟩ = some (.int .i64 (sy i)) := fun wr hb i hi => by
    obtain ⟨b, o, h1, h2, h3⟩ := (hE.below hb hB).at_ (by omega)
    exact ⟨b, o, h1, Nat.lt_of_lt_of_le h2 hB, by rw [h3 _ (by omega), (hsx i hi).1], by rw [h3 _ (by omega), (hsy i hi).1]⟩
  have HC := (show Hid (∀ wr, Below w.heap.size w wr → ∀ i, i < m → ∃ b o, a = some ⟨b, o, none⟩ ∧ b < w.heap.size ∧ wr.cell? ⟨b, o + 2 * i, none⟩ = some (.int .i64 (sx i)) ∧ wr.cell? ⟨b, o + (2 * i + 1), none⟩ = some (.int .i64 (sy i))) from hcell)
  have HU : Hid ((∀ i, i < m → sx i < n) ∧ ∀ i, i < m → sy i < n) := ⟨hU, hW⟩
  have mk1 := run_make_ints (n + 1) (by omega) w
  rw [show ((n + 1 : Nat) : Int) = (n : Int) + 1 from by omega] at mk1
  have hr0 : (w.alloc (.cells (madeCells #[.int .i64 0] (n + 1)) 3)).rowIs w.heap.size 3 (n + 1) (fun v => iv (cnt1 sx 0 v)) := (World.rowIs_made w (.int .i64 0) (n + 1) 3).congr fun v hv => by
    show Value.int .i64 0 = iv (cnt1 sx 0 v)
    unfold cnt1 iv
    split <;> rfl
  have H0 : Hid ((w.alloc (.cells (madeCells #[.int .i64 0] (n + 1)) 3)).rowIs w.heap.size 3 (n + 1) (fun v => iv (cnt1 sx 0 v)) ∧ Below w.heap.size w (w.alloc (.cells (madeCells #[.int .i64 0] (n + 1)) 3))) := ⟨hr0, (Below.refl _ _).alloc (Nat.le_refl _) _⟩
  clear hr0 hcell hU hW hE hsx hsy hm
  go_enter Try.func10, Try.ntmps10
  go_wp2
  clear mk1
  go_loopg [10] m (fun gk t wr => ∃ k : Nat, k + gk = m ∧ t = .int .i64 k ∧ wr.rowIs w.heap.size 3 (n + 1) (fun v => iv (cnt1 sx k v)) ∧ Below w.heap.size w wr)
  case atStart => exact ⟨0, by omega, rfl, H0.out⟩
  case round =>
    clear H0
    obtain ⟨i, hi, rfl, hrow, hbel⟩ := hrel
    by_cases hlt : i < m
    · have hlt' : (i : Int) < (m : Int) := by omega
      obtain ⟨b, o, rfl, hbb, cx, cy⟩ := HC.out wr hbel i hlt
      have hun := HU.out.1 i hlt
      have hun' : (sx i : Int) + 1 < (n : Int) + 1 := by omega
      have hil : 2 * (i : Int) + 1 < (l : Int) := by omega
      have c1 := hrow.cell (i := sx i + 1) (by omega)
      have c2 := hrow.frozen (sx i + 1)
      have hcb : cnt1 sx i (sx i + 1) ≤ 4096 := by unfold cnt1; rw [if_neg (by omega)]; have := cntTo_le sx i (sx i + 1 - 1); omega
      obtain ⟨cv, hcv⟩ : ∃ cv, cv = cnt1 sx i (sx i + 1) := ⟨_, rfl⟩
      rw [← hcv] at c1 hcb
      unfold iv at c1
      have HR : Hid (wr.rowIs w.heap.size 3 (n + 1) (fun v => iv (cnt1 sx i v)) ∧ Below w.heap.size w wr ∧ cv = cnt1 sx i (sx i + 1)) := ⟨hrow, hbel, hcv⟩
      clear hrow hbel hcv
      go_wp2_with fail
      go_roundg (gk - 1)
      case measure => omega
      case rel =>
        refine ⟨i + 1, by omega, by go_num, ?_, HR.out.2.1.setCell (p := ⟨w.heap.size, sx i + 1, none⟩) (Nat.le_refl _) _⟩
        refine (HR.out.1.set (sx i + 1) (.int .i64 ((cv : Int) + 1))).congr fun v hv => ?_
        show (if v = sx i + 1 then Value.int .i64 ((cv : Int) + 1) else iv _) = iv _
        rw [cnt1_step]
        split
        · rw [HR.out.2.2]; rfl
        · rfl
    · have hlt' : ¬ (i : Int) < (m : Int) := by omega
      have e : i = m := by omega
      subst e
      have H1 : Hid (wr.rowIs w.heap.size 3 (n + 1) (fun v => iv (sum2 sx i 0 v)) ∧ Below w.heap.size w wr) := ⟨hrow.congr fun v _ => by rw [sum2_start], hbel⟩
      clear hrow hbel hlt hlt'
      go_wp2_with fail
      go_loopg [12] n (fun gk t wr => ∃ k : Nat, k + gk = n ∧ t = .int .i64 k ∧ wr.rowIs w.heap.size 3 (n + 1) (fun v => iv (sum2 sx i k v)) ∧ Below w.heap.size w wr)
      case atStart => exact ⟨0, by omega, rfl, H1.out⟩
      case round =>
        clear H1
        obtain ⟨v, hv, rfl, hrow, hbel⟩ := hrel
        by_cases hlt : v < n
        · have hlt' : (v : Int) < (n : Int) := by omega
          have hv1 : (v : Int) < (n : Int) + 1 := by omega
          have hv2 : (v : Int) + 1 < (n : Int) + 1 := by omega
          have c1 := hrow.cell (i := v) (by omega)
          have c2 := hrow.cell (i := v + 1) (by omega)
          have c3 := hrow.frozen (v + 1)
          have b1 : sum2 sx i v v ≤ 4096 := by
            rw [sum2, if_pos (Nat.le_refl _)]
            have := pre_mono sx i v n (by omega)
            rw [pre_all sx n i HU.out.1] at this
            omega
          have b2 : sum2 sx i v (v + 1) ≤ 4096 := by
            rw [sum2, if_neg (by omega)]
            have := cntTo_le sx i (v + 1 - 1)
            omega
          obtain ⟨p, hp⟩ : ∃ p, p = sum2 sx i v v := ⟨_, rfl⟩
          obtain ⟨q, hqq⟩ : ∃ q, q = sum2 sx i v (v + 1) := ⟨_, rfl⟩
          rw [← hp] at c1 b1
          rw [← hqq] at c2 b2
          unfold iv at c1 c2
          have HR : Hid (wr.rowIs w.heap.size 3 (n + 1) (fun x => iv (sum2 sx i v x)) ∧ Below w.heap.size w wr ∧ p = sum2 sx i v v ∧ q = sum2 sx i v (v + 1)) := ⟨hrow, hbel, hp, hqq⟩
          clear hrow hbel hp hqq
          go_wp2_with fail
          go_region
          all_goals
            go_wp2_with fail
            go_roundg (gk - 1)
            case measure => omega
            case rel =>
              refine ⟨v + 1, by omega, by go_num, ?_, ?_⟩
              · refine ((HR.out.1.set (v + 1) (.int .i64 ((q : Int) + (p : Int)))).of_block (by first | rfl | simp [World.heap_drewN, World.setCell])).congr fun x hx => ?_
                show (if x = v + 1 then Value.int .i64 ((q : Int) + (p : Int)) else iv _) = iv _
                rw [sum2_step]
                split
                · rw [HR.out.2.2.1, HR.out.2.2.2]; rfl
                · rfl
              · first
                | exact (HR.out.2.1.setCell (p := ⟨w.heap.size, v + 1, none⟩) (Nat.le_refl _) _).drew
                | exact below_drewN (HR.out.2.1.setCell (p := ⟨w.heap.size, v + 1, none⟩) (Nat.le_refl _) _) _
        · have hlt' : ¬ (v : Int) < (n : Int) := by omega
          have e : v = n := by omega
          subst e
          obtain ⟨wA, hwA⟩ : ∃ u, u = wr := ⟨_, rfl⟩
          rw [← hwA] at hrow hbel ⊢
          clear hwA
          have mk2 := run_make_ints v (by omega) wA
          have hfp : w.heap.size < wA.heap.size := hrow.lt
          have hr0 : (wA.alloc (.cells (madeCells #[.int .i64 0] v) 3)).rowIs wA.heap.size 3 v (fun x => iv (if x < 0 then pre sx i x else 0)) := (World.rowIs_made wA (.int .i64 0) v 3).congr fun x hx => by
            show Value.int .i64 0 = iv (if x < 0 then pre sx i x else 0)
            rw [if_neg (by omega)]; rfl
          have hbA : Below wA.heap.size wA (wA.alloc (.cells (madeCells #[.int .i64 0] v) 3)) := (Below.refl _ _).alloc (Nat.le_refl _) _
          have H2 : Hid ((wA.alloc (.cells (madeCells #[.int .i64 0] v) 3)).rowIs w.heap.size 3 (v + 1) (fun x => iv (pre sx i x)) ∧ (wA.alloc (.cells (madeCells #[.int .i64 0] v) 3)).rowIs wA.heap.size 3 v (fun x => iv (if x < 0 then pre sx i x else 0)) ∧ Below w.heap.size w (wA.alloc (.cells (madeCells #[.int .i64 0] v) 3))) :=
            ⟨(hrow.congr fun x hx => by rw [sum2_end sx i v x hx]).of_block (hbA.block _ hrow.lt), hr0, hbel.trans (hbA.mono hbel.size)⟩
          have HbA : Hid (Below w.heap.size w wA) := hbel
          clear hrow hbel hr0 hbA hlt hlt' hv
          go_wp2
          clear mk2
          go_loopg [14] v (fun gk t wr => ∃ k : Nat, k + gk = v ∧ t = .int .i64 k ∧ wr.rowIs w.heap.size 3 (v + 1) (fun x => iv (pre sx i x)) ∧ wr.rowIs wA.heap.size 3 v (fun x => iv (if x < k then pre sx i x else 0)) ∧ Below w.heap.size w wr)
          case atStart => exact ⟨0, by omega, rfl, H2.out⟩
          case round =>
            clear H2
            obtain ⟨z, hz, rfl, hrow, hpos, hbel⟩ := hrel
            by_cases hlt : z < v
            · have hlt' : (z : Int) < (v : Int) := by omega
              have hlt2 : (z : Int) < (v : Int) + 1 := by omega
              have c1 := hrow.cell (i := z) (by omega)
              have c2 := hpos.cell hlt
              have c3 := hpos.frozen z
              have nn : w.heap.size ≠ wA.heap.size := by omega
              unfold iv at c1 c2
              have HR : Hid (wr.rowIs w.heap.size 3 (v + 1) (fun x => iv (pre sx i x)) ∧ wr.rowIs wA.heap.size 3 v (fun x => iv (if x < z then pre sx i x else 0)) ∧ Below w.heap.size w wr) := ⟨hrow, hpos, hbel⟩
              clear hrow hpos hbel
              go_wp2_with fail
              go_roundg (gk - 1)
              case measure => omega
              case rel =>
                refine ⟨z + 1, by omega, by go_num, HR.out.1.setOther (by simpa using nn) _, ?_, HR.out.2.2.setCell (p := ⟨wA.heap.size, z, none⟩) (Nat.le_of_lt hfp) _⟩
                refine (HR.out.2.1.set z (.int .i64 (pre sx i z))).congr fun x hx => ?_
                show (if x = z then Value.int .i64 (pre sx i z) else iv _) = iv _
                by_cases e : x = z
                · subst e
                  rw [if_pos rfl, if_pos (by omega)]; rfl
                · rw [if_neg e]
                  by_cases e2 : x < z
                  · rw [if_pos e2, if_pos (by omega)]
                  · rw [if_neg e2, if_neg (by omega)]
            · have hlt' : ¬ (z : Int) < (v : Int) := by omega
              have e : z = v := by omega
              subst e
              obtain ⟨wC, hwC⟩ : ∃ u, u = wr := ⟨_, rfl⟩
              rw [← hwC] at hrow hpos hbel ⊢
              clear hwC
              have mk3 := run_make_ints i (by omega) wC
              have hpg : wA.heap.size < wC.heap.size := hpos.lt
              have hr0 : (wC.alloc (.cells (madeCells #[.int .i64 0] i) 3)).rowIs wC.heap.size 3 i (fun x => iv ((fun _ => 0) x)) := (World.rowIs_made wC (.int .i64 0) i 3).congr fun x hx => rfl
              have hbC : Below wC.heap.size wC (wC.alloc (.cells (madeCells #[.int .i64 0] i) 3)) := (Below.refl _ _).alloc (Nat.le_refl _) _
              have H3 : Hid (St4 w z i w.heap.size wA.heap.size wC.heap.size sx sy 0 (wC.alloc (.cells (madeCells #[.int .i64 0] i) 3)) (fun _ => 0)) :=
                { f := hrow.of_block (hbC.block _ hrow.lt)
                  p := (hpos.of_block (hbC.block _ hpos.lt)).congr fun x hx => by
                    show iv (if x < z then pre sx i x else 0) = iv (pre sx i x + 0)
                    rw [if_pos hx]; rfl
                  g := hr0, half := fun x hx k hk => by rw [cntTo] at hk; omega, bel := hbel.trans (hbC.mono hbel.size) }
              clear hrow hpos hbel hr0 hbC hlt hlt' hz HbA
              go_wp2
              clear mk3
              go_loopg [16] i (fun gk t wr => ∃ k : Nat, k + gk = i ∧ t = .int .i64 k ∧ ∃ G, St4 w z i w.heap.size wA.heap.size wC.heap.size sx sy k wr G)
              case atStart => exact ⟨0, by omega, rfl, _, H3.out⟩
              case round =>
                clear H3
                obtain ⟨q, hqq, rfl, G, hst⟩ := hrel
                by_cases hlt : q < i
                · have hlt' : (q : Int) < (i : Int) := by omega
                  obtain ⟨b, o, rfl, hbb, cx, cy⟩ := HC.out wr hst.bel q hlt
                  have hun := HU.out.1 q hlt
                  have hun' : (sx q : Int) < (z : Int) := by omega
                  have hil : 2 * (q : Int) + 1 < (l : Int) := by omega
                  have hpl := half_place HU.out.1 hlt
                  have c1 := hst.p.cell hun
                  have c2 := hst.p.frozen (sx q)
                  have c3 := hst.g.cell hpl
                  have c4 := hst.g.frozen (pre sx i (sx q) + cntTo sx q (sx q))
                  obtain ⟨pp, hpp⟩ : ∃ pp, pp = pre sx i (sx q) + cntTo sx q (sx q) := ⟨_, rfl⟩
                  rw [← hpp] at c1 c3 c4 hpl
                  unfold iv at c1 c3
                  have hpl' : (pp : Int) < (i : Int) := by omega
                  have nn : wA.heap.size ≠ wC.heap.size := by omega
                  have n2 : w.heap.size ≠ wA.heap.size := by omega
                  have n3 : w.heap.size ≠ wC.heap.size := by omega
                  have n4 : b ≠ wC.heap.size := by omega
                  have n5 : b ≠ wA.heap.size := by omega
                  have HR : Hid (St4 w z i w.heap.size wA.heap.size wC.heap.size sx sy q wr G ∧ pp = pre sx i (sx q) + cntTo sx q (sx q)) := ⟨hst, hpp⟩
                  clear hst hpp
                  go_wp2_with fail
                  go_roundg (gk - 1)
                  case measure => omega
                  case rel =>
                    obtain ⟨hs, hp⟩ := HR.out
                    refine ⟨q + 1, by omega, by go_num, upd G pp (sy q), ?_⟩
                    exact
                      { f := (hs.f.setOther (by simpa using n3) _).setOther (by simpa using n2) _
                        p := ((hs.p.setOther (by simpa using nn) _).set (sx q) (.int .i64 ((pp : Int) + 1))).congr fun x hx => by
                          show (if x = sx q then Value.int .i64 ((pp : Int) + 1) else iv (pre sx i x + cntTo sx q x)) = iv (pre sx i x + cntTo sx (q + 1) x)
                          rw [cntTo]
                          by_cases e : x = sx q
                          · rw [if_pos e, if_pos e.symm, e, hp, ← Nat.add_assoc]; rfl
                          · rw [if_neg e, if_neg (fun e2 => e e2.symm)]
                        g := ((hs.g.set pp (.int .i64 (sy q))).setOther (by simpa using Ne.symm nn) _).congr fun x hx => by
                          show (if x = pp then Value.int .i64 (sy q) else iv (G x)) = iv (upd G pp (sy q) x)
                          unfold upd
                          split <;> rfl
                        half := by rw [hp]; exact half_step HU.out.1 hs.half hlt
                        bel := (hs.bel.setCell (p := ⟨wC.heap.size, pp, none⟩) (by show w.heap.size ≤ wC.heap.size; omega) _).setCell (p := ⟨wA.heap.size, sx q, none⟩) (Nat.le_of_lt hfp) _ }
                · have hlt' : ¬ (q : Int) < (i : Int) := by omega
                  have e : q = i := by omega
                  subst e
                  have HR : Hid (St4 w z q w.heap.size wA.heap.size wC.heap.size sx sy q wr G) := hst
                  clear hst
                  go_wp2_with fail
                  go_ret2
                  exact ⟨w.heap.size, wC.heap.size, pre sx q, G, rfl, ⟨HR.out.f, HR.out.g⟩, csr_of HU.out.1 HU.out.2 HR.out.half, HR.out.bel⟩

set_option maxRecDepth 100000 in
set_option maxHeartbeats 4000000 in
theorem csr_true (w : World) (B n m l c : Nat) (a : Option Addr) (sx sy : Nat → Nat) (E : Nat → Int) (hE : Ints w B a l E) (hB : B ≤ w.heap.size) (hl : l ≤ 8192) (hm : m = l / 2) (hn : n ≤ 4096)
    (hsx : ∀ i, i < m → E (2 * i) = sx i ∧ sx i < n) (hsy : ∀ i, i < m → E (2 * i + 1) = sy i ∧ sy i < n) :
    Calls Try.prog 10 #[.int .i64 n, .slice a l c, .bool true] w fun e w' => CsrQ w n m (Adj m sy sx) e w' := by
  have hq : (l : Int).tdiv 2 = (m : Int) := by rw [hm]; rfl
  have hml : 2 * m ≤ l := by omega
  have hm2 : m ≤ 4096 := by omega
  have hU : ∀ i, i < m → sy i < n := fun i hi => (hsy i hi).2
  have hW : ∀ i, i < m → sx i < n := fun i hi => (hsx i hi).2
  have hcell : ∀ wr, Below w.heap.size w wr → ∀ i, i < m → ∃ b o, a = some ⟨b, o, none⟩ ∧ b < w.heap.size ∧ wr.cell? ⟨b, o + 2 * i, none⟩ = some (.int .i64 (sx i)) ∧ wr.cell? ⟨b, o + (2 * i + 1), none⟩ = some (.int .i64 (sy i)) := fun wr hb i hi => by
    obtain ⟨b, o, h1, h2, h3⟩ := (hE.below hb hB).at_ (by omega)
    exact ⟨b, o, h1, Nat.lt_of_lt_of_le h2 hB, by rw [h3 _ (by omega), (hsx i hi).1], by rw [h3 _ (by omega), (hsy i hi).1]⟩
  have HC := (show Hid (∀ wr, Below w.heap.size w wr → ∀ i, i < m → ∃ b o, a = some ⟨b, o, none⟩ ∧ b < w.heap.size ∧ wr.cell? ⟨b, o + 2 * i, none⟩ = some (.int .i64 (sx i)) ∧ wr.cell? ⟨b, o + (2 * i + 1), none⟩ = some (.int .i64 (sy i))) from hcell)
  have HU : Hid ((∀ i, i < m → sy i < n) ∧ ∀ i, i < m → sx i < n) := ⟨hU, hW⟩
  have mk1 := run_make_ints (n + 1) (by omega) w
  rw [show ((n + 1 : Nat) : Int) = (n : Int) + 1 from by omega] at mk1
  have hr0 : (w.alloc (.cells (madeCells #[.int .i64 0] (n + 1)) 3)).rowIs w.heap.size 3 (n + 1) (fun v => iv (cnt1 sy 0 v)) := (World.rowIs_made w (.int .i64 0) (n + 1) 3).congr fun v hv => by
    show Value.int .i64 0 = iv (cnt1 sy 0 v)
    unfold cnt1 iv
    split <;> rfl
  have H0 : Hid ((w.alloc (.cells (madeCells #[.int .i64 0] (n + 1)) 3)).rowIs w.heap.size 3 (n + 1) (fun v => iv (cnt1 sy 0 v)) ∧ Below w.heap.size w (w.alloc (.cells (madeCells #[.int .i64 0] (n + 1)) 3))) := ⟨hr0, (Below.refl _ _).alloc (Nat.le_refl _) _⟩
  clear hr0 hcell hU hW hE hsx hsy hm
  go_enter Try.func10, Try.ntmps10
  go_wp2
  clear mk1
  go_loopg [10] m (fun gk t wr => ∃ k : Nat, k + gk = m ∧ t = .int .i64 k ∧ wr.rowIs w.heap.size 3 (n + 1) (fun v => iv (cnt1 sy k v)) ∧ Below w.heap.size w wr)
  case atStart => exact ⟨0, by omega, rfl, H0.out⟩
  case round =>
    clear H0
    obtain ⟨i, hi, rfl, hrow, hbel⟩ := hrel
    by_cases hlt : i < m
    · have hlt' : (i : Int) < (m : Int) := by omega
      obtain ⟨b, o, rfl, hbb, cx, cy⟩ := HC.out wr hbel i hlt
      have hun := HU.out.1 i hlt
      have hun' : (sy i : Int) + 1 < (n : Int) + 1 := by omega
      have hil : 2 * (i : Int) + 1 < (l : Int) := by omega
      have c1 := hrow.cell (i := sy i + 1) (by omega)
      have c2 := hrow.frozen (sy i + 1)
      have hcb : cnt1 sy i (sy i + 1) ≤ 4096 := by unfold cnt1; rw [if_neg (by omega)]; have := cntTo_le sy i (sy i + 1 - 1); omega
      obtain ⟨cv, hcv⟩ : ∃ cv, cv = cnt1 sy i (sy i + 1) := ⟨_, rfl⟩
      rw [← hcv] at c1 hcb
      unfold iv at c1
      have HR : Hid (wr.rowIs w.heap.size 3 (n + 1) (fun v => iv (cnt1 sy i v)) ∧ Below w.heap.size w wr ∧ cv = cnt1 sy i (sy i + 1)) := ⟨hrow, hbel, hcv⟩
      clear hrow hbel hcv
      go_wp2_with fail
      go_roundg (gk - 1)
      case measure => omega
      case rel =>
        refine ⟨i + 1, by omega, by go_num, ?_, HR.out.2.1.setCell (p := ⟨w.heap.size, sy i + 1, none⟩) (Nat.le_refl _) _⟩
        refine (HR.out.1.set (sy i + 1) (.int .i64 ((cv : Int) + 1))).congr fun v hv => ?_
        show (if v = sy i + 1 then Value.int .i64 ((cv : Int) + 1) else iv _) = iv _
        rw [cnt1_step]
        split
        · rw [HR.out.2.2]; rfl
        · rfl
    · have hlt' : ¬ (i : Int) < (m : Int) := by omega
      have e : i = m := by omega
      subst e
      have H1 : Hid (wr.rowIs w.heap.size 3 (n + 1) (fun v => iv (sum2 sy i 0 v)) ∧ Below w.heap.size w wr) := ⟨hrow.congr fun v _ => by rw [sum2_start], hbel⟩
      clear hrow hbel hlt hlt'
      go_wp2_with fail
      go_loopg [12] n (fun gk t wr => ∃ k : Nat, k + gk = n ∧ t = .int .i64 k ∧ wr.rowIs w.heap.size 3 (n + 1) (fun v => iv (sum2 sy i k v)) ∧ Below w.heap.size w wr)
      case atStart => exact ⟨0, by omega, rfl, H1.out⟩
      case round =>
        clear H1
        obtain ⟨v, hv, rfl, hrow, hbel⟩ := hrel
        by_cases hlt : v < n
        · have hlt' : (v : Int) < (n : Int) := by omega
          have hv1 : (v : Int) < (n : Int) + 1 := by omega
          have hv2 : (v : Int) + 1 < (n : Int) + 1 := by omega
          have c1 := hrow.cell (i := v) (by omega)
          have c2 := hrow.cell (i := v + 1) (by omega)
          have c3 := hrow.frozen (v + 1)
          have b1 : sum2 sy i v v ≤ 4096 := by
            rw [sum2, if_pos (Nat.le_refl _)]
            have := pre_mono sy i v n (by omega)
            rw [pre_all sy n i HU.out.1] at this
            omega
          have b2 : sum2 sy i v (v + 1) ≤ 4096 := by
            rw [sum2, if_neg (by omega)]
            have := cntTo_le sy i (v + 1 - 1)
            omega
          obtain ⟨p, hp⟩ : ∃ p, p = sum2 sy i v v := ⟨_, rfl⟩
          obtain ⟨q, hqq⟩ : ∃ q, q = sum2 sy i v (v + 1) := ⟨_, rfl⟩
          rw [← hp] at c1 b1
          rw [← hqq] at c2 b2
          unfold iv at c1 c2
          have HR : Hid (wr.rowIs w.heap.size 3 (n + 1) (fun x => iv (sum2 sy i v x)) ∧ Below w.heap.size w wr ∧ p = sum2 sy i v v ∧ q = sum2 sy i v (v + 1)) := ⟨hrow, hbel, hp, hqq⟩
          clear hrow hbel hp hqq
          go_wp2_with fail
          go_region
          all_goals
            go_wp2_with fail
            go_roundg (gk - 1)
            case measure => omega
            case rel =>
              refine ⟨v + 1, by omega, by go_num, ?_, ?_⟩
              · refine ((HR.out.1.set (v + 1) (.int .i64 ((q : Int) + (p : Int)))).of_block (by first | rfl | simp [World.heap_drewN, World.setCell])).congr fun x hx => ?_
                show (if x = v + 1 then Value.int .i64 ((q : Int) + (p : Int)) else iv _) = iv _
                rw [sum2_step]
                split
                · rw [HR.out.2.2.1, HR.out.2.2.2]; rfl
                · rfl
              · first
                | exact (HR.out.2.1.setCell (p := ⟨w.heap.size, v + 1, none⟩) (Nat.le_refl _) _).drew
                | exact below_drewN (HR.out.2.1.setCell (p := ⟨w.heap.size, v + 1, none⟩) (Nat.le_refl _) _) _
        · have hlt' : ¬ (v : Int) < (n : Int) := by omega
          have e : v = n := by omega
          subst e
          obtain ⟨wA, hwA⟩ : ∃ u, u = wr := ⟨_, rfl⟩
          rw [← hwA] at hrow hbel ⊢
          clear hwA
          have mk2 := run_make_ints v (by omega) wA
          have hfp : w.heap.size < wA.heap.size := hrow.lt
          have hr0 : (wA.alloc (.cells (madeCells #[.int .i64 0] v) 3)).rowIs wA.heap.size 3 v (fun x => iv (if x < 0 then pre sy i x else 0)) := (World.rowIs_made wA (.int .i64 0) v 3).congr fun x hx => by
            show Value.int .i64 0 = iv (if x < 0 then pre sy i x else 0)
            rw [if_neg (by omega)]; rfl
          have hbA : Below wA.heap.size wA (wA.alloc (.cells (madeCells #[.int .i64 0] v) 3)) := (Below.refl _ _).alloc (Nat.le_refl _) _
          have H2 : Hid ((wA.alloc (.cells (madeCells #[.int .i64 0] v) 3)).rowIs w.heap.size 3 (v + 1) (fun x => iv (pre sy i x)) ∧ (wA.alloc (.cells (madeCells #[.int .i64 0] v) 3)).rowIs wA.heap.size 3 v (fun x => iv (if x < 0 then pre sy i x else 0)) ∧ Below w.heap.size w (wA.alloc (.cells (madeCells #[.int .i64 0] v) 3))) :=
            ⟨(hrow.congr fun x hx => by rw [sum2_end sy i v x hx]).of_block (hbA.block _ hrow.lt), hr0, hbel.trans (hbA.mono hbel.size)⟩
          have HbA : Hid (Below w.heap.size w wA) := hbel
          clear hrow hbel hr0 hbA hlt hlt' hv
          go_wp2
          clear mk2
          go_loopg [14] v (fun gk t wr => ∃ k : Nat, k + gk = v ∧ t = .int .i64 k ∧ wr.rowIs w.heap.size 3 (v + 1) (fun x => iv (pre sy i x)) ∧ wr.rowIs wA.heap.size 3 v (fun x => iv (if x < k then pre sy i x else 0)) ∧ Below w.heap.size w wr)
          case atStart => exact ⟨0, by omega, rfl, H2.out⟩
          case round =>
            clear H2
            obtain ⟨z, hz, rfl, hrow, hpos, hbel⟩ := hrel
            by_cases hlt : z < v
            · have hlt' : (z : Int) < (v : Int) := by omega
              have hlt2 : (z : Int) < (v : Int) + 1 := by omega
              have c1 := hrow.cell (i := z) (by omega)
              have c2 := hpos.cell hlt
              have c3 := hpos.frozen z
              have nn : w.heap.size ≠ wA.heap.size := by omega
              unfold iv at c1 c2
              have HR : Hid (wr.rowIs w.heap.size 3 (v + 1) (fun x => iv (pre sy i x)) ∧ wr.rowIs wA.heap.size 3 v (fun x => iv (if x < z then pre sy i x else 0)) ∧ Below w.heap.size w wr) := ⟨hrow, hpos, hbel⟩
              clear hrow hpos hbel
              go_wp2_with fail
              go_roundg (gk - 1)
              case measure => omega
              case rel =>
                refine ⟨z + 1, by omega, by go_num, HR.out.1.setOther (by simpa using nn) _, ?_, HR.out.2.2.setCell (p := ⟨wA.heap.size, z, none⟩) (Nat.le_of_lt hfp) _⟩
                refine (HR.out.2.1.set z (.int .i64 (pre sy i z))).congr fun x hx => ?_
                show (if x = z then Value.int .i64 (pre sy i z) else iv _) = iv _
                by_cases e : x = z
                · subst e
                  rw [if_pos rfl, if_pos (by omega)]; rfl
                · rw [if_neg e]
                  by_cases e2 : x < z
                  · rw [if_pos e2, if_pos (by omega)]
                  · rw [if_neg e2, if_neg (by omega)]
            · have hlt' : ¬ (z : Int) < (v : Int) := by omega
              have e : z = v := by omega
              subst e
              obtain ⟨wC, hwC⟩ : ∃ u, u = wr := ⟨_, rfl⟩
              rw [← hwC] at hrow hpos hbel ⊢
              clear hwC
              have mk3 := run_make_ints i (by omega) wC
              have hpg : wA.heap.size < wC.heap.size := hpos.lt
              have hr0 : (wC.alloc (.cells (madeCells #[.int .i64 0] i) 3)).rowIs wC.heap.size 3 i (fun x => iv ((fun _ => 0) x)) := (World.rowIs_made wC (.int .i64 0) i 3).congr fun x hx => rfl
              have hbC : Below wC.heap.size wC (wC.alloc (.cells (madeCells #[.int .i64 0] i) 3)) := (Below.refl _ _).alloc (Nat.le_refl _) _
              have H3 : Hid (St4 w z i w.heap.size wA.heap.size wC.heap.size sy sx 0 (wC.alloc (.cells (madeCells #[.int .i64 0] i) 3)) (fun _ => 0)) :=
                { f := hrow.of_block (hbC.block _ hrow.lt)
                  p := (hpos.of_block (hbC.block _ hpos.lt)).congr fun x hx => by
                    show iv (if x < z then pre sy i x else 0) = iv (pre sy i x + 0)
                    rw [if_pos hx]; rfl
                  g := hr0, half := fun x hx k hk => by rw [cntTo] at hk; omega, bel := hbel.trans (hbC.mono hbel.size) }
              clear hrow hpos hbel hr0 hbC hlt hlt' hz HbA
              go_wp2
              clear mk3
              go_loopg [16] i (fun gk t wr => ∃ k : Nat, k + gk = i ∧ t = .int .i64 k ∧ ∃ G, St4 w z i w.heap.size wA.heap.size wC.heap.size sy sx k wr G)
              case atStart => exact ⟨0, by omega, rfl, _, H3.out⟩
              case round =>
                clear H3
                obtain ⟨q, hqq, rfl, G, hst⟩ := hrel
                by_cases hlt : q < i
                · have hlt' : (q : Int) < (i : Int) := by omega
                  obtain ⟨b, o, rfl, hbb, cx, cy⟩ := HC.out wr hst.bel q hlt
                  have hun := HU.out.1 q hlt
                  have hun' : (sy q : Int) < (z : Int) := by omega
                  have hil : 2 * (q : Int) + 1 < (l : Int) := by omega
                  have hpl := half_place HU.out.1 hlt
                  have c1 := hst.p.cell hun
                  have c2 := hst.p.frozen (sy q)
                  have c3 := hst.g.cell hpl
                  have c4 := hst.g.frozen (pre sy i (sy q) + cntTo sy q (sy q))
                  obtain ⟨pp, hpp⟩ : ∃ pp, pp = pre sy i (sy q) + cntTo sy q (sy q) := ⟨_, rfl⟩
                  rw [← hpp] at c1 c3 c4 hpl
                  unfold iv at c1 c3
                  have hpl' : (pp : Int) < (i : Int) := by omega
                  have nn : wA.heap.size ≠ wC.heap.size := by omega
                  have n2 : w.heap.size ≠ wA.heap.size := by omega
                  have n3 : w.heap.size ≠ wC.heap.size := by omega
                  have n4 : b ≠ wC.heap.size := by omega
                  have n5 : b ≠ wA.heap.size := by omega
                  have HR : Hid (St4 w z i w.heap.size wA.heap.size wC.heap.size sy sx q wr G ∧ pp = pre sy i (sy q) + cntTo sy q (sy q)) := ⟨hst, hpp⟩
                  clear hst hpp
                  go_wp2_with fail
                  go_roundg (gk - 1)
                  case measure => omega
                  case rel =>
                    obtain ⟨hs, hp⟩ := HR.out
                    refine ⟨q + 1, by omega, by go_num, upd G pp (sx q), ?_⟩
                    exact
                      { f := (hs.f.setOther (by simpa using n3) _).setOther (by simpa using n2) _
                        p := ((hs.p.setOther (by simpa using nn) _).set (sy q) (.int .i64 ((pp : Int) + 1))).congr fun x hx => by
                          show (if x = sy q then Value.int .i64 ((pp : Int) + 1) else iv (pre sy i x + cntTo sy q x)) = iv (pre sy i x + cntTo sy (q + 1) x)
                          rw [cntTo]
                          by_cases e : x = sy q
                          · rw [if_pos e, if_pos e.symm, e, hp, ← Nat.add_assoc]; rfl
                          · rw [if_neg e, if_neg (fun e2 => e e2.symm)]
                        g := ((hs.g.set pp (.int .i64 (sx q))).setOther (by simpa using Ne.symm nn) _).congr fun x hx => by
                          show (if x = pp then Value.int .i64 (sx q) else iv (G x)) = iv (upd G pp (sx q) x)
                          unfold upd
                          split <;> rfl
                        half := by rw [hp]; exact half_step HU.out.1 hs.half hlt
                        bel := (hs.bel.setCell (p := ⟨wC.heap.size, pp, none⟩) (by show w.heap.size ≤ wC.heap.size; omega) _).setCell (p := ⟨wA.heap.size, sy q, none⟩) (Nat.le_of_lt hfp) _ }
                · have hlt' : ¬ (q : Int) < (i : Int) := by omega
                  have e : q = i := by omega
                  subst e
                  have HR : Hid (St4 w z q w.heap.size wA.heap.size wC.heap.size sy sx q wr G) := hst
                  clear hst
                  go_wp2_with fail
                  go_ret2
                  exact ⟨w.heap.size, wC.heap.size, pre sy q, G, rfl, ⟨HR.out.f, HR.out.g⟩, csr_of HU.out.1 HU.out.2 HR.out.half, HR.out.bel⟩

end Go.Proofs.Qxb6600486a

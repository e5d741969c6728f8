/-
  THE WALK OF shortestCycle (26) AND ITS SHIM (17).
-/
import Derived.Test.Qxb6600486aBfs
import Derived.Test.Qxb6600486aLib
import Derived.Test.Qxb6600486aRev
set_option linter.unusedVariables false
set_option linter.unusedSimpArgs false
namespace Go.Proofs.Qxb6600486a
open Go.RowKit

theorem run_make_hint (n : Nat) (w : World) : (Instr.makeMap 59 (some (.int .i64 (n : Int)))).run Try.prog w = .ok (.map (some w.heap.size)) (w.alloc (.map #[] 0)) := by
  simp [Instr.makeMap, asInt, asIntOf]

/-- The search's memory: the map, the queue. -/
structure SS (w : World) (mb : Nat) (wr : World) (M : Nat → Option Nat) (q : Nat → Nat) (h t b o cap : Nat) : Prop where
  map : MapIs wr mb M
  app : App wr 3 b o (t - h) cap (fun i => .int .i64 (q (h + i)))
  hm : w.heap.size ≤ mb
  hb : w.heap.size ≤ b
  ne : b ≠ mb
  bel : Below w.heap.size w wr

theorem ss_drewN {w : World} {mb : Nat} {wr : World} {M : Nat → Option Nat} {q : Nat → Nat} {h t b o cap : Nat} (H : SS w mb wr M q h t b o cap) (k : Nat) : SS w mb (wr.drewN k) M q h t b o cap :=
  { map := H.map.of_block (by rw [World.heap_drewN]), app := H.app.of_block (by rw [World.heap_drewN]), hm := H.hm, hb := H.hb, ne := H.ne, bel := below_drewN H.bel k }

theorem ss_start (w : World) (s : Nat) : SS w w.heap.size ((w.alloc (.map #[] 0)).alloc (.cells #[.int .i64 (s : Int)] 3)) (fun _ => none) (fun _ => s) 0 1 (w.heap.size + 1) 0 1 := by
  have h1 : (w.alloc (.map #[] 0)).heap.size = w.heap.size + 1 := by simp
  have hnew := heap_alloc_new (w.alloc (.map #[] 0)) (.cells #[.int .i64 (s : Int)] 3)
  rw [h1] at hnew
  exact
    { map := (mapIs_made w).of_block (((Below.refl _ (w.alloc (.map #[] 0))).alloc (Nat.le_refl _) _).block _ (by rw [h1]; omega))
      app := ⟨⟨_, hnew, by simp⟩, Nat.le_refl _, fun i hi => by
        have e : i = 0 := by omega
        subst e
        rw [cell_of_row _ _ _ _ 3 (0, 0) hnew]; rfl⟩
      hm := Nat.le_refl _, hb := by omega, ne := by omega
      bel := ((Below.refl _ _).alloc (Nat.le_refl _) _).alloc (by rw [h1]; omega) _ }

theorem SS.pop {w : World} {mb : Nat} {wr : World} {M : Nat → Option Nat} {q : Nat → Nat} {h t b o cap : Nat} (H : SS w mb wr M q h t b o cap) (hh : h < t) : SS w mb wr M q (h + 1) t b (o + 1) (cap - 1) :=
  { map := H.map
    app := by
      have := H.app.drop 1 (by omega)
      rw [show t - h - 1 = t - (h + 1) from by omega] at this
      exact this.congr fun i hi => by rw [show h + (1 + i) = h + 1 + i from by omega]
    hm := H.hm, hb := H.hb, ne := H.ne, bel := H.bel }

/-- w1 comes of the store into the map; the queue is then appended to. -/
theorem ss_push {w : World} {mb : Nat} {wr : World} {M : Nat → Option Nat} {q : Nat → Nat} {h t b o cap : Nat} (H : SS w mb wr M q h t b o cap) (hh : h ≤ t) {x v : Nat} {w1 : World} (hm1 : MapIs w1 mb (upd M x (some v))) (hg1 : wr.grownBy w1 (some mb))
    {w3 : World} {b' o' cap' : Nat}
    (hA : App w3 3 b' o' (t - h + 1) cap' (fun k => if k < t - h then (fun i => Value.int .i64 (q (h + i))) k else [Value.int .i64 (x : Int)].getD (k - (t - h)) undef))
    (hown : (Value.slice (some ⟨b, o, none⟩) (t - h) cap).ownBlock = some b' ∨ b' = (w1.alloc (.cells #[.int .i64 (x : Int)] 3)).heap.size)
    (hg : (w1.alloc (.cells #[.int .i64 (x : Int)] 3)).grownBy w3 (Value.slice (some ⟨b, o, none⟩) (t - h) cap).ownBlock) :
    SS w mb w3 (upd M x (some v)) (upd q t x) h (t + 1) b' o' cap' := by
  have hob : (Value.slice (some ⟨b, o, none⟩) (t - h) cap).ownBlock = some b := rfl
  rw [hob] at hown hg
  have hsz : (w1.alloc (.cells #[.int .i64 (x : Int)] 3)).heap.size = w1.heap.size + 1 := by simp
  have hmlt := hm1.lt
  have hs1 := hg1.size
  have hs3 := hg.size
  have hm := H.hm
  have hb := H.hb
  have hne := H.ne
  have hwr := H.map.lt
  exact
    { map := hm1.of_block (by
        rw [hg.block mb (by rw [hsz]; omega) (by simp; omega)]
        exact ((Below.refl w1.heap.size w1).alloc (Nat.le_refl _) _).block _ hmlt)
      app := by
        rw [show t + 1 - h = t - h + 1 from by omega]
        exact hA.congr fun k hk => by
          by_cases e : k < t - h
          · rw [if_pos e, upd_ne (by omega)]
          · have : k = t - h := by omega
            rw [if_neg e, this, Nat.sub_self, show h + (t - h) = t from by omega, upd_same]; rfl
      hm := hm
      hb := by
        rcases hown with e | e
        · simp at e; omega
        · rw [hsz] at e; omega
      ne := by
        rcases hown with e | e
        · simp at e; omega
        · rw [hsz] at e; omega
      bel := by
        have k1 : Below w.heap.size w w1 := H.bel.grown hg1 H.bel.size (fun k e => by simp at e; omega)
        exact (k1.alloc k1.size _).grown hg (by rw [hsz]; have := k1.size; omega) (fun k e => by simp at e; omega) }

theorem SS.appv {w : World} {mb : Nat} {wr : World} {M : Nat → Option Nat} {q : Nat → Nat} {h t b o cap : Nat} (H : SS w mb wr M q h t b o cap) {x : Nat} {w1 : World} (hg1 : wr.grownBy w1 (some mb)) :
    AppV (w1.alloc (.cells #[.int .i64 (x : Int)] 3)) 3 (.slice (some ⟨b, o, none⟩) (t - h) cap) (t - h) (fun i => .int .i64 (q (h + i))) := by
  refine .inr ⟨b, o, cap, rfl, H.app.of_block ?_⟩
  have h1 := H.app.lt
  have hs := hg1.size
  have := H.ne
  rw [((Below.refl w1.heap.size w1).alloc (Nat.le_refl _) _).block b (by omega)]
  exact hg1.block b h1 (by simp; omega)

/-- What shortestCycle hands back. -/
def CycQ (w : World) (n : Nat) (A : Nat → Nat → Prop) (P : Nat → Prop) (s : Nat) (e : Ending) (w' : World) : Prop :=
  ∃ (b o cap l : Nat) (y : Nat → Nat), e = .returned (.slice (some ⟨b, o, none⟩) l cap) ∧ Cyc A P s l y ∧ Seg w' b o l (fun i => iv (y i)) ∧ w.heap.size ≤ b ∧ b < w'.heap.size ∧ l ≤ n ∧ Below w.heap.size w w'

theorem BF.depth {n : Nat} {A : Nat → Nat → Prop} {P : Nat → Prop} {s : Nat} {M : Nat → Option Nat} {sn : Nat → Bool} {q : Nat → Nat} {c t : Nat} {D : Nat → Nat} (h : BF n A P s M sn q c t D) : ∀ k i, i < k → i < t → D (q i) ≤ i
  | 0, i, hi, _ => by omega
  | k + 1, i, hi, ht => by
    rcases Nat.eq_zero_or_pos i with h0 | h0
    · rw [h0, h.q0, h.d0]; exact Nat.le_refl _
    · obtain ⟨j, h1, _, _, _, h5⟩ := h.qs i h0 ht
      have := BF.depth h k j (by omega) (by omega)
      omega

/-- In the midst of node q c's edges: those below e are seen to. -/
structure Mid2 (w : World) (n mb : Nat) (A : Nat → Nat → Prop) (P : Nat → Prop) (s : Nat) (G : Nat → Nat) (c v f0 e : Nat) (wr : World) (M : Nat → Option Nat) (sn : Nat → Bool) (q : Nat → Nat) (t : Nat) (D : Nat → Nat) (b o cap : Nat) : Prop where
  ss : SS w mb wr M q (c + 1) t b o cap
  bf : BF n A P s M sn q c t D
  ct : c < t
  qc : q c = v
  ed : ∀ x, f0 ≤ x → x < e → P (G x) → G x ≠ s ∧ ∃ j, j < t ∧ q j = G x ∧ D (G x) ≤ D v + 1

theorem Mid2.skip {w : World} {n mb : Nat} {A : Nat → Nat → Prop} {P : Nat → Prop} {s : Nat} {G : Nat → Nat} {c v f0 e : Nat} {wr : World} {M : Nat → Option Nat} {sn : Nat → Bool} {q : Nat → Nat} {t : Nat} {D : Nat → Nat} {b o cap : Nat} (h : Mid2 w n mb A P s G c v f0 e wr M sn q t D b o cap)
    (hx : P (G e) → G e ≠ s ∧ ∃ j, j < t ∧ q j = G e ∧ D (G e) ≤ D v + 1) : Mid2 w n mb A P s G c v f0 (e + 1) wr M sn q t D b o cap := by
  have h2 : ∀ x, f0 ≤ x → x < e + 1 → P (G x) → G x ≠ s ∧ ∃ j, j < t ∧ q j = G x ∧ D (G x) ≤ D v + 1 := fun x h1 h2 hp => by
    by_cases ee : x = e
    · rw [ee] at hp ⊢; exact hx hp
    · exact h.ed x h1 (by omega) hp
  exact { h with ed := h2 }

theorem Mid2.push {w : World} {n mb : Nat} {A : Nat → Nat → Prop} {P : Nat → Prop} {s : Nat} {G : Nat → Nat} {c v f0 e : Nat} {wr : World} {M : Nat → Option Nat} {sn : Nat → Bool} {q : Nat → Nat} {t : Nat} {D : Nat → Nat} {b o cap : Nat} (h : Mid2 w n mb A P s G c v f0 e wr M sn q t D b o cap)
    {x : Nat} (hx : x = G e) (hxn : x < n) (hxs : x ≠ s) (hm : M x = none) (hA : A v x) (hP : P x) {w3 : World} {b' o' cap' : Nat} (hs : SS w mb w3 (upd M x (some v)) (upd q t x) (c + 1) (t + 1) b' o' cap') :
    Mid2 w n mb A P s G c v f0 (e + 1) w3 (upd M x (some v)) (mark sn x) (upd q t x) (t + 1) (upd D x (D v + 1)) b' o' cap' := by
  have hqc := h.qc
  have hct := h.ct
  have hbf := h.bf.push h.ct hxn hxs hm (by rw [hqc]; exact hA) hP
  rw [hqc] at hbf
  have hnew : ∀ i, i < t → q i ≠ x := fun i hi e => by
    rcases Nat.eq_zero_or_pos i with h0 | h0
    · rw [h0, h.bf.q0] at e; exact hxs e.symm
    · obtain ⟨j, _, h2, _⟩ := h.bf.qs i h0 hi
      rw [e, hm] at h2; cases h2
  have hv : upd D x (D v + 1) v = D v := upd_ne (by rw [← hqc]; exact hnew c hct)
  exact
    { ss := hs, bf := hbf, ct := by omega, qc := by rw [upd_ne (by omega)]; exact hqc
      ed := fun z h1 h2 hp => by
        rw [hv]
        by_cases ee : z = e
        · rw [ee, ← hx]
          exact ⟨hxs, t, by omega, upd_same _ _ _, by rw [upd_same]; exact Nat.le_refl _⟩
        · obtain ⟨g1, j, g2, g3, g4⟩ := h.ed z h1 (by omega) hp
          refine ⟨g1, j, by omega, by rw [upd_ne (by omega)]; exact g3, ?_⟩
          rw [← g3, upd_ne (hnew j g2), g3]
          exact g4 }

/-- The way back as it is gathered. -/
structure CB (wS wr : World) (cv : Value) (k : Nat) (f : Nat → Nat) : Prop where
  app : AppV wr 3 cv k (fun i => .int .i64 (f i))
  ob : ∀ b, cv.ownBlock = some b → wS.heap.size ≤ b ∧ b < wr.heap.size
  bel : Below wS.heap.size wS wr

theorem CB.start (wS : World) (f : Nat → Nat) : CB wS wS (.slice none 0 0) 0 f := { app := .inl ⟨rfl, rfl⟩, ob := fun b e => by simp [Value.ownBlock] at e, bel := Below.refl _ _ }

theorem CB.appv {wS wr : World} {cv : Value} {k : Nat} {f : Nat → Nat} (h : CB wS wr cv k f) (x : Nat) : AppV (wr.alloc (.cells #[.int .i64 (x : Int)] 3)) 3 cv k (fun i => .int .i64 (f i)) :=
  h.app.of_block (fun b e => ((Below.refl wr.heap.size wr).alloc (Nat.le_refl _) _).block b (h.ob b e).2)

theorem CB.push {wS wr : World} {cv : Value} {k : Nat} {f : Nat → Nat} (h : CB wS wr cv k f) {x : Nat} (hx : x = f k) {w3 : World} {b' o' cap' : Nat}
    (hA : App w3 3 b' o' (k + 1) cap' (fun i => if i < k then (fun i => Value.int .i64 (f i)) i else [Value.int .i64 (x : Int)].getD (i - k) undef))
    (hown : cv.ownBlock = some b' ∨ b' = (wr.alloc (.cells #[.int .i64 (x : Int)] 3)).heap.size)
    (hg : (wr.alloc (.cells #[.int .i64 (x : Int)] 3)).grownBy w3 cv.ownBlock) : App w3 3 b' o' (k + 1) cap' (fun i => .int .i64 (f i)) ∧ CB wS w3 (.slice (some ⟨b', o', none⟩) (k + 1) cap') (k + 1) f := by
  have hsz : (wr.alloc (.cells #[.int .i64 (x : Int)] 3)).heap.size = wr.heap.size + 1 := by simp
  have hs := h.bel.size
  have hA2 : App w3 3 b' o' (k + 1) cap' (fun i => .int .i64 (f i)) := hA.congr fun i hi => by
    by_cases e : i < k
    · rw [if_pos e]
    · have : i = k := by omega
      rw [if_neg e, this, Nat.sub_self, ← hx]; rfl
  refine ⟨hA2, { app := .inr ⟨b', o', cap', rfl, hA2⟩, ob := fun y e => ?_, bel := ?_ }⟩
  · have e' : b' = y := by simpa [Value.ownBlock] using e
    subst e'
    refine ⟨?_, hA.lt⟩
    rcases hown with e2 | e2
    · exact (h.ob _ e2).1
    · rw [hsz] at e2; omega
  · exact (h.bel.alloc hs _).grown hg (by rw [hsz]; omega) (fun y e => (h.ob y e).1)

set_option maxRecDepth 100000 in
set_option maxHeartbeats 4000000 in
theorem cycle_any (w : World) (sb fb gb n m cb co ln cc : Nat) (A : Nat → Nat → Prop) (F G C : Nat → Nat) (hR : Rows w fb gb n m F G) (hC : CSR n m A F G) (hA : ∀ u x, u < n → A u x → x < n) (hn : n ≤ 4096) (hm : m ≤ 4096)
    (hs0 : w.cell? ⟨sb, 0, none⟩ = some (.slice (some ⟨fb, 0, none⟩) (n + 1) (n + 1))) (hs1 : w.cell? ⟨sb, 1, none⟩ = some (.slice (some ⟨gb, 0, none⟩) m m)) (hsb : sb < w.heap.size)
    (hS : Seg w cb co ln (fun i => iv (C i))) (hcb : cb < w.heap.size) (hinc : ∀ i j, i < j → j < ln → C i < C j) (hCn : ∀ i, i < ln → C i < n) (hl1 : 1 ≤ ln) (hl : ln ≤ 4096)
    (hcyc : ∃ k, 1 ≤ k ∧ WkP A (fun v => ∃ i, i < ln ∧ C i = v) (C 0) k (C 0)) :
    Calls Try.prog 26 #[.pointer (some ⟨sb, 0, none⟩), .slice (some ⟨cb, co, none⟩) ln cc] w fun e w' => CycQ w n A (fun v => ∃ i, i < ln ∧ C i = v) (C 0) e w' := by
  have d0 : w.cell? ⟨cb, co, none⟩ = some (.int .i64 (C 0)) := by have := hS 0 (by omega); rwa [Nat.add_zero] at this
  obtain ⟨s, hs⟩ : ∃ s, s = C 0 := ⟨_, rfl⟩
  obtain ⟨P, hP⟩ : ∃ P : Nat → Prop, P = fun v => ∃ i, i < ln ∧ C i = v := ⟨_, rfl⟩
  rw [← hs] at d0
  rw [← hs, ← hP] at hcyc ⊢
  have hsn : s < n := by rw [hs]; exact hCn 0 (by omega)
  have hPs : P s := by rw [hP, hs]; exact ⟨0, by omega, rfl⟩
  have hPn : ∀ v, P v → v < n := fun v hv => by rw [hP] at hv; obtain ⟨i, h1, h2⟩ := hv; rw [← h2]; exact hCn i h1
  have rd : ∀ wx, Below w.heap.size w wx → wx.cell? ⟨sb, 0, none⟩ = some (.slice (some ⟨fb, 0, none⟩) (n + 1) (n + 1)) ∧ wx.cell? ⟨sb, 1, none⟩ = some (.slice (some ⟨gb, 0, none⟩) m m) ∧ (∀ v, v < n + 1 → wx.cell? ⟨fb, v, none⟩ = some (.int .i64 (F v))) ∧ (∀ e, e < m → wx.cell? ⟨gb, e, none⟩ = some (.int .i64 (G e))) ∧ Seg wx cb co ln (fun i => iv (C i)) :=
    fun wx hb => ⟨by rw [hb.cell (p := ⟨sb, 0, none⟩) hsb]; exact hs0, by rw [hb.cell (p := ⟨sb, 1, none⟩) hsb]; exact hs1, fun v hv => (hR.below hb).f.cell hv, fun e he => (hR.below hb).g.cell he, seg_below hS hcb hb⟩
  have HRD := (show Hid (∀ wx, Below w.heap.size w wx → wx.cell? ⟨sb, 0, none⟩ = some (.slice (some ⟨fb, 0, none⟩) (n + 1) (n + 1)) ∧ wx.cell? ⟨sb, 1, none⟩ = some (.slice (some ⟨gb, 0, none⟩) m m) ∧ (∀ v, v < n + 1 → wx.cell? ⟨fb, v, none⟩ = some (.int .i64 (F v))) ∧ (∀ e, e < m → wx.cell? ⟨gb, e, none⟩ = some (.int .i64 (G e))) ∧ Seg wx cb co ln (fun i => iv (C i))) from rd)
  have srch : ∀ wx x, Below w.heap.size w wx → Calls Try.prog 32 #[.slice (some ⟨cb, co, none⟩) ln cc, .int .i64 (x : Nat)] wx fun e w' => ∃ (p : Nat) (f : Bool), e = .returned (.tuple #[.int .i64 p, .bool f]) ∧ (f = true ↔ P x) ∧ w' = wx := fun wx x hb => by
    rw [hP]
    exact search_any wx cb co ln cc x C (seg_below hS hcb hb) hinc hl
  have HSR := (show Hid (∀ wx x, Below w.heap.size w wx → Calls Try.prog 32 #[.slice (some ⟨cb, co, none⟩) ln cc, .int .i64 (x : Nat)] wx fun e w' => ∃ (p : Nat) (f : Bool), e = .returned (.tuple #[.int .i64 p, .bool f]) ∧ (f = true ↔ P x) ∧ w' = wx) from srch)
  have HC : Hid (CSR n m A F G) := hC
  have HP := (show Hid (P s ∧ (∀ v, P v → v < n) ∧ (∃ k, 1 ≤ k ∧ WkP A P s k s) ∧ ∀ u x, u < n → A u x → x < n) from ⟨hPs, hPn, hcyc, hA⟩)
  have mk1 := run_make_hint ln w
  have hss := ss_start w s
  obtain ⟨w1, hw1⟩ : ∃ w1, w1 = w.alloc (.map #[] 0) := ⟨_, rfl⟩
  have z1 : w1.heap.size = w.heap.size + 1 := by rw [hw1]; simp
  rw [← hw1] at mk1 hss
  have HSS := (show Hid (SS w w.heap.size (w1.alloc (.cells #[.int .i64 (s : Int)] 3)) (fun _ => none) (fun _ => s) 0 1 (w.heap.size + 1) 0 1) from hss)
  clear rd srch hR hC hA hs0 hs1 hS hinc hCn hcyc hP hs hPs hPn hw1 hss
  have hl0 : (0 : Int) < (ln : Int) := by omega
  go_enter Try.func26, Try.ntmps26
  go_wp2_with fail
  go_loopg [7] n (fun gk z wr => ∃ c : Nat, c + gk = n ∧ ∃ b o cap t M sn q D, z = .slice (some ⟨b, o, none⟩) (t - c) cap ∧ SS w w.heap.size wr M q c t b o cap ∧ BF n A P s M sn q c t D)
  case atStart => exact ⟨0, by omega, w.heap.size + 1, 0, 1, 1, _, _, _, _, by first | rfl | rw [z1], HSS.out, BF.start hsn⟩
  case round =>
    clear HSS mk1 d0
    obtain ⟨c, hc, b, o, cap, t, M, sn, q, D, rfl, hss, hbf⟩ := hrel
    have hct := hbf.ct
    have hfew := hbf.few
    by_cases hlt : c < t
    · obtain ⟨l, hl2⟩ : ∃ l, t - c = l + 1 := ⟨t - c - 1, by omega⟩
      have hl3 : t - (c + 1) = l := by omega
      have hlb : l ≤ 4096 := by omega
      obtain ⟨v, hv⟩ : ∃ v, v = q c := ⟨_, rfl⟩
      have c1 : wr.cell? ⟨b, o, none⟩ = some (.int .i64 (q c)) := by have := hss.app.seg 0 (by omega); rwa [Nat.add_zero, Nat.add_zero] at this
      have hvn := hbf.qn c hlt
      rw [← hv] at c1 hvn
      have hcap := hss.app.le
      have hss2 : ∃ o2 cap2, SS w w.heap.size wr M q (c + 1) t b o2 cap2 ∧ ((cap = 1 ∧ o2 = o ∧ cap2 = 0) ∨ (1 < cap ∧ o2 = o + 1 ∧ cap2 = cap - 1)) := by
        by_cases e : cap = 1
        · have := hss.pop hlt
          obtain ⟨cA, hcA, hsA⟩ := hss.app.blk
          refine ⟨o, 0, { this with app := ⟨⟨cA, hcA, by omega⟩, by omega, fun i hi => by omega⟩ }, .inl ⟨e, rfl, rfl⟩⟩
        · exact ⟨o + 1, cap - 1, hss.pop hlt, .inr ⟨by have := hss.app.le; omega, rfl, rfl⟩⟩
      rw [hl2] at hcap ⊢
      have r0 := HRD.out wr hss.bel
      have c2 := r0.1
      have c3 := r0.2.1
      have c4 := r0.2.2.1 v (by omega)
      have c5 := r0.2.2.1 (v + 1) (by omega)
      have t2 := HC.out.top (v + 1) (by omega)
      have t3 := HC.out.mono v hvn
      obtain ⟨o2, cap2, hss3, hoc⟩ := hss2
      have HM : Hid (Mid2 w n w.heap.size A P s G c v (F v) (F v) wr M sn q t D b o2 cap2) := { ss := hss3, bf := hbf, ct := hlt, qc := hv.symm, ed := fun x h1 h2 => by omega }
      obtain ⟨f0, hf0⟩ : ∃ f0, f0 = F v := ⟨_, rfl⟩
      obtain ⟨f1, hf1⟩ : ∃ f1, f1 = F (v + 1) := ⟨_, rfl⟩
      rw [← hf0] at c4 t3 HM
      rw [← hf1] at c5 t2 t3
      have HF : Hid (f0 = F v ∧ f1 = F (v + 1) ∧ v = q c ∧ t - (c + 1) = l) := ⟨hf0, hf1, hv, hl3⟩
      obtain ⟨f2, hf2⟩ : ∃ f2, f1 = f0 + f2 := ⟨f1 - f0, by omega⟩
      subst hf2
      have hvn1 : (v : Int) < (n : Int) + 1 := by omega
      have hvn2 : (v : Int) + 1 < (n : Int) + 1 := by omega
      clear r0 hss hss3 hbf hv hf0 hf1 hl2 hl3
      go_upto_region 6 with fail
      go_cut [7] from 25 to 102 (fun z wx => z = .slice (some ⟨b, o2, none⟩) l cap2 ∧ wx = wr)
      case first =>
        rcases hoc with ⟨rfl, rfl, rfl⟩ | ⟨h1, rfl, rfl⟩
        · have hl0' : l = 0 := by omega
          subst hl0'
          go_wp2_with fail
          go_meet
          exact ⟨rfl, rfl⟩
        · have h1' : (1 : Int) < (cap : Int) := by omega
          have h1n : ¬ cap = 1 := by omega
          go_wp2_with fail
          go_meet
          exact ⟨rfl, rfl⟩
      case rest =>
      obtain ⟨rfl, rfl⟩ := hcut
      clear hoc c1 hcap
      go_upto_region 7 with fail
      go_cut [52, 53, 54] from 25 to 102 (fun a1 a2 a3 wx => ∃ sv sc, a1 = .slice sv f2 sc ∧ (0 < f2 → sv = some ⟨gb, f0, none⟩) ∧ a2 = .int .i64 f2 ∧ a3 = .int .i64 0 ∧ ∃ k, wx = wc.drewN k)
      case first =>
        by_cases emf : m = f0
        · have e2 : f2 = 0 := by omega
          subst e2
          have emi : ¬ f0 ≠ m := by omega
          subst emf
          go_quiet (fail)
          go_wp2_with fail
          go_meet
          case rel => exact ⟨_, _, rfl, fun h => by omega, rfl, rfl, nq, rfl⟩
        · have emi : f0 < m := by omega
          have hsub : f0 + f2 - f0 = f2 := by omega
          go_quiet (fail)
          go_wp2_with fail
          go_meet
          case rel => exact ⟨_, _, by rw [hsub], fun h => rfl, rfl, rfl, nq, rfl⟩
      case rest =>
      obtain ⟨sv, sc, rfl, hsv, rfl, rfl, k0, rfl⟩ := hcut
      have HM2 : Hid (Mid2 w n w.heap.size A P s G c v f0 f0 (wc.drewN k0) M sn q t D b o2 cap2) := { HM.out with ss := ss_drewN HM.out.ss k0 }
      have HSV : Hid (0 < f2 → sv = some ⟨gb, f0, none⟩) := hsv
      have hfew2 := hfew
      clear HM hsv c2 c3 c4 c5
      obtain ⟨wd, hwd⟩ : ∃ wd, wd = wc.drewN k0 := ⟨_, rfl⟩
      rw [← hwd] at HM2 ⊢
      clear hwd
      obtain ⟨Gk, hG⟩ : ∃ g, g = gk := ⟨_, rfl⟩
      subst hG
      go_wp2_with fail
      go_loopg [7, 54] f2 (fun gk z y wr => ∃ x : Nat, x + gk = f2 ∧ y = .int .i64 x ∧ ∃ b o cap t M sn q D, z = .slice (some ⟨b, o, none⟩) (t - (c + 1)) cap ∧ Mid2 w n w.heap.size A P s G c v f0 (f0 + x) wr M sn q t D b o cap)
      case atStart => exact ⟨0, by omega, rfl, b, o2, cap2, t, M, sn, q, D, by rw [HF.out.2.2.2], HM2.out⟩
      case round =>
        clear HM2
        obtain ⟨x, hx, rfl, b, o, cap, t, M, sn, q, D, rfl, hmid⟩ := hrel
        have hfew3 := hmid.bf.few
        by_cases hxl : x < f2
        · have hxl' : (x : Int) < (f2 : Int) := by omega
          have hsv := HSV.out (by omega)
          subst hsv
          have c1 := (HRD.out wr hmid.ss.bel).2.2.2.1 (f0 + x) (by omega)
          have hsd := HC.out.snd v hvn (f0 + x) (by rw [← HF.out.1]; omega) (by rw [← HF.out.2.1]; omega)
          obtain ⟨p, hp⟩ : ∃ p, p = G (f0 + x) := ⟨_, rfl⟩
          rw [← hp] at c1 hsd
          have hpn := hsd.1
          have HX : Hid (p = G (f0 + x) ∧ A v p) := ⟨hp, hsd.2⟩
          have HMD : Hid (Mid2 w n w.heap.size A P s G c v f0 (f0 + x) wr M sn q t D b o cap) := hmid
          clear hp hsd hmid
          go_wp2_with fail
          refine (HSR.out wr p HMD.out.ss.bel).mono ?_
          rintro e w' ⟨p1, f, rfl, hf, hw'⟩
          obtain rfl : wr = w' := hw'.symm
          have HFd : Hid (f = true ↔ P p) := hf
          clear hf
          cases f
          · have HNP : Hid (¬ P p) := fun h => by have := HFd.out.2 h; cases this
            go_wp2_with fail
            go_roundg (gk - 1)
            case measure => omega
            case rel => exact ⟨x + 1, by omega, by go_num, b, o, cap, t, M, sn, q, D, rfl, HMD.out.skip (fun h => absurd (by rw [HX.out.1]; exact h) HNP.out)⟩
          · have HPP : Hid (P p) := HFd.out.1 rfl
            clear HFd
            by_cases hps : p = s
            · have dps : ((p : Int) == (s : Int)) = true := by simp [hps]
              have HPS : Hid (p = s) := hps
              obtain ⟨wS, hwS⟩ : ∃ u, u = wr := ⟨_, rfl⟩
              subst hwS
              obtain ⟨d, hd⟩ : ∃ d, d = D v := ⟨_, rfl⟩
              have hbk := HMD.out.bf.back HMD.out.ct HMD.out.qc
              have hend := HMD.out.bf.back_end HMD.out.ct HMD.out.qc
              have hcy := HMD.out.bf.cyc HMD.out.ct (by rw [HMD.out.qc, ← hps]; exact HX.out.2)
              have hdep := HMD.out.bf.depth (c + 1) c (by omega) HMD.out.ct
              rw [HMD.out.qc] at hcy hdep
              rw [← hd] at hbk hend hcy hdep
              have hnb : ∀ k, k ≤ d → back M v k < n := fun k hk => by
                obtain ⟨⟨j, g1, g2⟩, _⟩ := hbk k hk
                rw [← g2]; exact HMD.out.bf.qn j g1
              have HBK := (show Hid ((∀ k, k < d → M (back M v k) = some (back M v (k + 1)) ∧ back M v k ≠ s) ∧ back M v d = s ∧ Cyc A P s (d + 1) (fun i => back M v (d - i)) ∧ ∀ k, k ≤ d → back M v k < n) from ⟨fun k hk => ⟨((hbk k (by omega)).2.2 hk).1, ((hbk k (by omega)).2.2 hk).2.2.2⟩, hend, hcy, hnb⟩)
              have hdn : d ≤ 4096 := by have := HMD.out.ct; omega
              have hdn2 : d + 1 ≤ n := by have := HMD.out.ct; omega
              clear hps hd hbk hend hcy hnb hdep
              have hb0 : Hid (back M v 0 = v) := (rfl : back M v 0 = v)
              go_wp2_with fail
              go_loopg [13, 14] d (fun gk z y wq => ∃ k : Nat, k + gk = d ∧ ∃ cv, cv = z ∧ y = .int .i64 (back M v k) ∧ CB wS wq cv k (back M v))
              case atStart => exact ⟨0, by omega, _, rfl, rfl, CB.start wS _⟩
              case round =>
                obtain ⟨k, hk, cv, rfl, rfl, hcb2⟩ := hrel
                obtain ⟨u, hu⟩ : ∃ u, u = back M v k := ⟨_, rfl⟩
                rw [← hu]
                have hap := hcb2.appv u
                have HCB : Hid (CB wS wr cv k (back M v) ∧ u = back M v k) := ⟨hcb2, hu⟩
                clear hcb2 hu
                by_cases hkd : k < d
                · have hbk := HBK.out.1 k hkd
                  rw [← HCB.out.2] at hbk
                  have dne : ((u : Int) != (s : Int)) = true := by rw [bne_iff_ne]; omega
                  have hun := HBK.out.2.2.2 k (by omega)
                  rw [← HCB.out.2] at hun
                  have lkq : Hid (∀ wx, Below wS.heap.size wS wx → (Instr.lookup 59 (.map (some w.heap.size)) (.int .i64 (u : Int)) false).run Try.prog wx = .ok (.int .i64 (back M v (k + 1) : Int)) wx) := fun wx hb => ((HMD.out.ss.map.of_block (hb.block _ HMD.out.ss.map.lt)).find_some (by omega) hbk.1).2
                  clear hbk
                  go_wp2_with (at_builtin; refine wpList_append_app rfl (.tmp 76) (.tmp 78) 22 rfl 3 (.int .i64 0) 8 Try.underlying22 Try.info3 rfl cv rfl k (fun i => .int .i64 (back M v i)) hap _ rfl 1 [.int .i64 (u : Int)] (src_one u) (by omega) (by omega) (by omega) ?_; intro b2 o2 cp2 w4 hA1 hown1 hg1 hlt1; have hpu := HCB.out.1.push HCB.out.2 hA1 hown1 hg1; have HPU : Hid (CB wS w4 (.slice (some ⟨b2, o2, none⟩) (k + 1) cp2) (k + 1) (back M v)) := hpu.2; have lk := lkq.out w4 hpu.2.bel; clear hA1 hown1 hg1 hpu)
                  go_wp2_with fail
                  go_roundg (gk - 1)
                  case measure => omega
                  case rel => exact ⟨k + 1, by omega, _, rfl, rfl, HPU.out⟩
                · have ekd : k = d := by omega
                  subst ekd
                  have hus : u = s := by rw [HCB.out.2]; exact HBK.out.2.1
                  have dne : ((u : Int) != (s : Int)) = false := by simp [hus]
                  rw [hus] at hap
                  have HUS : Hid (s = back M v k) := HBK.out.2.1.symm
                  clear hus
                  go_wp2_with (at_builtin; refine wpList_append_app rfl (.tmp 80) (.tmp 82) 22 rfl 3 (.int .i64 0) 8 Try.underlying22 Try.info3 rfl cv rfl k (fun i => .int .i64 (back M v i)) hap _ rfl 1 [.int .i64 (s : Int)] (src_one s) (by omega) (by omega) (by omega) ?_; intro b2 o2 cp2 w4 hA1 hown1 hg1 hlt1; have hpu := HCB.out.1.push HUS.out hA1 hown1 hg1; have HPU : Hid (App w4 3 b2 o2 (k + 1) cp2 (fun i => .int .i64 (back M v i)) ∧ CB wS w4 (.slice (some ⟨b2, o2, none⟩) (k + 1) cp2) (k + 1) (back M v)) := hpu; clear hA1 hown1 hg1 hpu)
                  go_wp2_with fail
                  refine (reverse_any w4 b2 o2 (k + 1) cp2 (back M v) HPU.out.1 (by omega) (by omega)).mono ?_
                  rintro e w5 ⟨rfl, hrev, hgr⟩
                  have hob := HPU.out.2.ob b2 rfl
                  have hwr := HMD.out.ss.bel
                  have HFI : Hid (CycQ w n A P s (.returned (.slice (some ⟨b2, o2, none⟩) (k + 1) cp2)) w5) :=
                    ⟨b2, o2, cp2, k + 1, _, rfl, HBK.out.2.2.1, hrev.seg.congr fun i hi => by rw [show k + 1 - 1 - i = k - i from by omega], by have := hwr.size; omega, hrev.lt, hdn2, by
                      have k1 := hwr.trans (HPU.out.2.bel.mono hwr.size)
                      exact k1.grown hgr k1.size (fun y e => by simp at e; have := hwr.size; omega)⟩
                  clear hrev hgr hob hwr HPU
                  go_wp2_with fail
                  go_ret
                  exact HFI.out
            · have dps : ((p : Int) == (s : Int)) = false := by rw [beq_eq_false_iff_ne]; omega
              have HPS : Hid (p ≠ s) := hps
              clear hps
              cases hMp : M p with
              | some u =>
                have lk := (HMD.out.ss.map.find_some (by omega : p ≤ 1048576) hMp).1
                have HMP : Hid (M p = some u) := hMp
                clear hMp
                go_wp2_with fail
                go_roundg (gk - 1)
                case measure => omega
                case rel => exact ⟨x + 1, by omega, by go_num, b, o, cap, t, M, sn, q, D, rfl, HMD.out.skip (fun _ => by
                    rw [← HX.out.1]
                    refine ⟨HPS.out, ?_⟩
                    have := HMD.out.bf.near HMD.out.ct HMP.out
                    rw [HMD.out.qc] at this
                    exact this)⟩
              | none =>
                have lk := HMD.out.ss.map.lookup_none (by omega : p ≤ 1048576) hMp
                obtain ⟨w5, hup, hm5, hg5⟩ := HMD.out.ss.map.store (by omega : p ≤ 1048576) hMp v
                have hap := HMD.out.ss.appv (x := p) hg5
                have HMP : Hid (M p = none ∧ MapIs w5 w.heap.size (upd M p (some v)) ∧ wr.grownBy w5 (some w.heap.size)) := ⟨hMp, hm5, hg5⟩
                have hct2 := HMD.out.ct
                clear hMp hm5 hg5
                go_wp2_with (at_builtin; refine wpList_append_app rfl (.tmp 98) (.tmp 100) 22 rfl 3 (.int .i64 0) 8 Try.underlying22 Try.info3 rfl (.slice (some ⟨b, o, none⟩) (t - (c + 1)) cap) rfl (t - (c + 1)) (fun i => .int .i64 (q (c + 1 + i))) hap _ rfl 1 [.int .i64 (p : Int)] (src_one p) (by omega) (by omega) (by omega) ?_; intro b2 o2 cp2 w4 hA1 hown1 hg1 hlt1)
                have hss4 := ss_push HMD.out.ss (by omega) HMP.out.2.1 HMP.out.2.2 hA1 hown1 hg1
                have HS4 : Hid (Mid2 w n w.heap.size A P s G c v f0 (f0 + x + 1) w4 (upd M p (some v)) (mark sn p) (upd q t p) (t + 1) (upd D p (D v + 1)) b2 o2 cp2) := HMD.out.push HX.out.1 hpn HPS.out HMP.out.1 HX.out.2 HPP.out hss4
                clear hss4 hA1 hown1 hg1 hap lk hup
                go_wp2_with fail
                go_roundg (gk - 1)
                case measure => omega
                case rel => exact ⟨x + 1, by omega, by go_num, b2, o2, cp2, t + 1, _, _, _, _, by rw [show t + 1 - (c + 1) = t - (c + 1) + 1 from by omega], HS4.out⟩
        · have hxl' : ¬ (x : Int) < (f2 : Int) := by omega
          have exf : x = f2 := by omega
          subst exf
          have HMD : Hid (Mid2 w n w.heap.size A P s G c v f0 (f0 + x) wr M sn q t D b o cap) := hmid
          clear hmid
          go_wp2_with fail
          go_roundg (Gk - 1)
          case measure => have := HMD.out.ct; omega
          case rel =>
            have H := HMD.out
            have hct2 := H.ct
            refine ⟨c + 1, by omega, b, o, cap, t, M, sn, q, D, rfl, H.ss, H.bf.next H.ct (fun z hz hPz => ?_)⟩
            rw [H.qc] at hz ⊢
            obtain ⟨e', g1, g2, g3⟩ := HC.out.cmp v hvn z hz
            have := H.ed e' (by rw [HF.out.1]; exact g1) (by rw [HF.out.2.1]; exact g2) (by rw [g3]; exact hPz)
            rw [g3] at this
            exact this
    · exfalso
      have ect : c = t := by omega
      subst ect
      obtain ⟨k, hk1, hk2⟩ := HP.out.2.2.1
      exact (hbf.stuck k s hk2).2 hk1 rfl

end Go.Proofs.Qxb6600486a

/-
  THE WALK OF reachable (25).
-/
import Derived.Test.Qxb6600486aCsr
set_option linter.unusedVariables false
set_option linter.unusedSimpArgs false
namespace Go.Proofs.Qxb6600486a
open Go.RowKit

def unseen (sn : Nat → Bool) : Nat → Nat
  | 0 => 0
  | i + 1 => unseen sn i + if sn i then 0 else 1

theorem unseen_le (sn : Nat → Bool) : ∀ L, unseen sn L ≤ L
  | 0 => Nat.le_refl _
  | i + 1 => by have := unseen_le sn i; unfold unseen; split <;> omega

def mark (sn : Nat → Bool) (p : Nat) : Nat → Bool := fun i => if i = p then true else sn i

theorem unseen_mark_out (sn : Nat → Bool) (p : Nat) : ∀ L, L ≤ p → unseen (mark sn p) L = unseen sn L
  | 0, _ => rfl
  | i + 1, h => by
    rw [unseen, unseen, unseen_mark_out sn p i (by omega)]
    have : mark sn p i = sn i := by unfold mark; rw [if_neg (by omega)]
    rw [this]

theorem unseen_mark (sn : Nat → Bool) (p : Nat) (hp : sn p = false) : ∀ L, p < L → unseen (mark sn p) L + 1 = unseen sn L
  | 0, h => by omega
  | i + 1, h => by
    rw [unseen, unseen]
    by_cases e : i = p
    · subst e
      rw [unseen_mark_out sn i i (Nat.le_refl _), hp]
      have : mark sn i i = true := by unfold mark; rw [if_pos rfl]
      rw [this]
      simp
    · have := unseen_mark sn p hp i (by omega)
      have h2 : mark sn p i = sn i := by unfold mark; rw [if_neg e]
      rw [h2]
      omega

theorem mark_keeps {sn : Nat → Bool} {p q : Nat} (h : sn q = true) : mark sn p q = true := by
  unfold mark
  split
  · rfl
  · exact h

/-- The search's own state: what is marked; the queue f 0 .. f (len - 1), of which those below h are seen to. -/
structure RL (n s : Nat) (E : Nat → Nat → Prop) (sn : Nat → Bool) (h len : Nat) (f : Nat → Nat) (busy : Nat) : Prop where
  few : len + unseen sn n ≤ n
  st : ∀ k, k < len → f k < n ∧ sn (f k) = true
  re : ∀ i, i < n → sn i = true → Reach E s i
  clo : ∀ i, i < n → sn i = true → i ≠ busy → (∃ k, h ≤ k ∧ k < len ∧ f k = i) ∨ ∀ p, E i p → sn p = true
  fr : sn s = true

theorem RL.start {n s : Nat} {E : Nat → Nat → Prop} (h : s < n) : RL n s E (mark (fun _ => false) s) 0 1 (fun _ => s) n :=
  { few := by
      have := unseen_mark (fun _ => false) s rfl n h
      have := unseen_le (fun _ => false) n
      omega
    st := fun k hk => ⟨h, by simp [mark]⟩
    re := fun i hi hs => by
      have : i = s := by
        by_cases e : i = s
        · exact e
        · simp [mark, e] at hs
      rw [this]; exact Reach.refl _
    clo := fun i hi hs _ => by
      have : i = s := by
        by_cases e : i = s
        · exact e
        · simp [mark, e] at hs
      exact .inl ⟨0, by omega, by omega, this.symm⟩
    fr := by simp [mark] }

theorem RL.pop {n s : Nat} {E : Nat → Nat → Prop} {sn : Nat → Bool} {h len : Nat} {f : Nat → Nat} (H : RL n s E sn h len f n) : RL n s E sn (h + 1) len f (f h) :=
  { few := H.few, st := H.st, re := H.re, fr := H.fr
    clo := fun i hi hs hne => by
      rcases H.clo i hi hs (by omega) with ⟨k, hk0, hk, e⟩ | hc
      · refine .inl ⟨k, ?_, hk, e⟩
        by_cases e2 : k = h
        · subst e2; exact absurd e.symm hne
        · omega
      · exact .inr hc }

theorem RL.push {n s : Nat} {E : Nat → Nat → Prop} {sn : Nat → Bool} {h len : Nat} {f : Nat → Nat} {busy p : Nat} (H : RL n s E sn h len f busy) (hh : h ≤ len) (hp : p < n) (hs : sn p = false) (hr : Reach E s p) :
    RL n s E (mark sn p) h (len + 1) (fun k => if k < len then f k else p) busy :=
  { few := by have := H.few; have := unseen_mark sn p hs n hp; omega
    st := fun k hk => by
      by_cases e : k < len
      · rw [if_pos e]
        have := H.st k e
        exact ⟨this.1, mark_keeps this.2⟩
      · rw [if_neg e]; exact ⟨hp, by simp [mark]⟩
    re := fun i hi hi2 => by
      by_cases e : i = p
      · rw [e]; exact hr
      · simp [mark, e] at hi2; exact H.re i hi hi2
    clo := fun i hi hi2 hne => by
      by_cases e : i = p
      · exact .inl ⟨len, hh, by omega, by rw [if_neg (by omega), e]⟩
      · simp [mark, e] at hi2
        rcases H.clo i hi hi2 hne with ⟨k, hk0, hk, e2⟩ | hc
        · exact .inl ⟨k, hk0, by omega, by rw [if_pos hk, e2]⟩
        · exact .inr fun q hq => mark_keeps (hc q hq)
    fr := mark_keeps H.fr }

theorem RL.leave {n s : Nat} {E : Nat → Nat → Prop} {sn : Nat → Bool} {h len : Nat} {f : Nat → Nat} {i : Nat} (H : RL n s E sn h len f i) (hc : ∀ p, E i p → sn p = true) : RL n s E sn h len f n :=
  { few := H.few, st := H.st, re := H.re, fr := H.fr
    clo := fun x hx hs _ => by
      by_cases e : x = i
      · exact .inr (by rw [e]; exact hc)
      · exact H.clo x hx hs e }

theorem RL.done {n s : Nat} {E : Nat → Nat → Prop} {sn : Nat → Bool} {len : Nat} {f : Nat → Nat} (H : RL n s E sn len len f n) (hf : s < n) (hE : ∀ i p, i < n → E i p → p < n) : ∀ i, i < n → (sn i = true ↔ Reach E s i) := fun i hi =>
  ⟨H.re i hi, fun hr => (hr (fun x => x < n ∧ sn x = true) ⟨hf, H.fr⟩ (fun x y hx e => by
    refine ⟨hE x y hx.1 e, ?_⟩
    rcases H.clo x hx.1 hx.2 (by omega) with ⟨k, hk0, hk, _⟩ | hc
    · omega
    · exact hc y e)).2⟩

/-- The search's memory: the marks in the block that was made first, the queue. -/
structure RSt (w : World) (n : Nat) (wr : World) (sn : Nat → Bool) (b o len cap : Nat) (f : Nat → Nat) : Prop where
  row : wr.rowIs w.heap.size 4 n (fun i => .bool (sn i))
  app : App wr 3 b o len cap (fun k => .int .i64 (f k))
  hb : w.heap.size < b
  bel : Below w.heap.size w wr

theorem rst_start (w : World) {n s : Nat} (hs : s < n) : RSt w n (((w.alloc (.cells (madeCells #[.bool false] n) 4)).setCell ⟨w.heap.size, s, none⟩ (.bool true)).alloc (.cells #[.int .i64 (s : Int)] 3)) (mark (fun _ => false) s) (w.heap.size + 1) 0 1 1 (fun _ => s) := by
  have h1 : ((w.alloc (.cells (madeCells #[.bool false] n) 4)).setCell ⟨w.heap.size, s, none⟩ (.bool true)).heap.size = w.heap.size + 1 := by simp [World.setCell]
  have hnew := heap_alloc_new ((w.alloc (.cells (madeCells #[.bool false] n) 4)).setCell ⟨w.heap.size, s, none⟩ (.bool true)) (.cells #[.int .i64 (s : Int)] 3)
  rw [h1] at hnew
  exact
    { row := by
        have := ((World.rowIs_made w (.bool false) n 4).set s (.bool true)).alloc (.cells #[.int .i64 (s : Int)] 3)
        refine this.congr fun i hi => ?_
        show (if i = s then Value.bool true else Value.bool false) = Value.bool (mark (fun _ => false) s i)
        unfold mark
        split <;> rfl
      app := ⟨⟨_, hnew, by simp⟩, Nat.le_refl _, fun i hi => by
        have e : i = 0 := by omega
        subst e
        rw [cell_of_row _ _ _ _ 3 (0, 0) hnew]; rfl⟩
      hb := by omega
      bel := ((((Below.refl _ _).alloc (Nat.le_refl _) _).setCell (p := ⟨w.heap.size, s, none⟩) (Nat.le_refl _) _).alloc (by rw [h1]; omega) _) }

theorem rst_drewN {w : World} {n : Nat} {wr : World} {sn : Nat → Bool} {b o len cap : Nat} {f : Nat → Nat} (h : RSt w n wr sn b o len cap f) (m : Nat) : RSt w n (wr.drewN m) sn b o len cap f :=
  { row := h.row.of_block (by rw [World.heap_drewN]), app := h.app.of_block (by rw [World.heap_drewN]), hb := h.hb, bel := below_drewN h.bel m }

theorem RSt.appv {w : World} {n : Nat} {wr : World} {sn : Nat → Bool} {b o len cap : Nat} {f : Nat → Nat} (h : RSt w n wr sn b o len cap f) (p : Nat) :
    AppV ((wr.setCell ⟨w.heap.size, p, none⟩ (.bool true)).alloc (.cells #[.int .i64 (p : Int)] 3)) 3 (.slice (some ⟨b, o, none⟩) len cap) len (fun k => .int .i64 (f k)) := by
  refine .inr ⟨b, o, cap, rfl, h.app.of_block ?_⟩
  have h1 := h.app.lt
  have h2 := h.hb
  have k := ((Below.refl (wr.setCell ⟨w.heap.size, p, none⟩ (.bool true)).heap.size (wr.setCell ⟨w.heap.size, p, none⟩ (.bool true))).alloc (Nat.le_refl _) (.cells #[.int .i64 (p : Int)] 3)).block b (by simpa [World.setCell] using h1)
  rw [k]
  exact heap_setCell_other _ _ _ _ (by simp; omega)

theorem rst_push {w : World} {n : Nat} {wr : World} {sn : Nat → Bool} {b o len cap : Nat} {f : Nat → Nat} (h : RSt w n wr sn b o len cap f) {p : Nat} (hp : p < n) {w3 : World} {b' o' cap' : Nat}
    (hA : App w3 3 b' o' (len + 1) cap' (fun k => if k < len then (fun k => Value.int .i64 (f k)) k else [Value.int .i64 (p : Int)].getD (k - len) undef))
    (hown : (Value.slice (some ⟨b, o, none⟩) len cap).ownBlock = some b' ∨ b' = ((wr.setCell ⟨w.heap.size, p, none⟩ (.bool true)).alloc (.cells #[.int .i64 (p : Int)] 3)).heap.size)
    (hg : ((wr.setCell ⟨w.heap.size, p, none⟩ (.bool true)).alloc (.cells #[.int .i64 (p : Int)] 3)).grownBy w3 (Value.slice (some ⟨b, o, none⟩) len cap).ownBlock) :
    RSt w n w3 (mark sn p) b' o' (len + 1) cap' (fun k => if k < len then f k else p) := by
  have lr := h.row.lt
  have hb := h.hb
  have hob : (Value.slice (some ⟨b, o, none⟩) len cap).ownBlock = some b := rfl
  rw [hob] at hown hg
  have hsz : ((wr.setCell ⟨w.heap.size, p, none⟩ (.bool true)).alloc (.cells #[.int .i64 (p : Int)] 3)).heap.size = wr.heap.size + 1 := by simp [World.setCell]
  have hrow := (h.row.set p (.bool true))
  have hblk : w3.heap[w.heap.size]? = (wr.setCell ⟨w.heap.size, p, none⟩ (.bool true)).heap[w.heap.size]? := by
    rw [hg.block w.heap.size (by rw [hsz]; omega) (by simp; omega)]
    exact ((Below.refl (wr.setCell ⟨w.heap.size, p, none⟩ (.bool true)).heap.size _).alloc (Nat.le_refl _) _).block _ (by simpa [World.setCell] using lr)
  exact
    { row := (hrow.of_block hblk).congr fun i hi => by
        show (if i = p then Value.bool true else Value.bool (sn i)) = Value.bool (mark sn p i)
        unfold mark
        split <;> rfl
      app := hA.congr fun k hk => by
        by_cases e : k < len
        · rw [if_pos e, if_pos e]
        · have : k = len := by omega
          rw [if_neg e, if_neg e, this, Nat.sub_self]; rfl
      hb := by
        rcases hown with e | e
        · simp at e; omega
        · rw [hsz] at e; omega
      bel := (((h.bel.setCell (p := ⟨w.heap.size, p, none⟩) (Nat.le_refl _) _).alloc (by simpa [World.setCell] using Nat.le_of_lt lr) _)).grown hg (by rw [hsz]; omega) (fun k e => by simp at e; omega) }

/-- In the midst of the search: node v's edges below e are seen to. -/
structure Mid (w : World) (n s : Nat) (A : Nat → Nat → Prop) (F G : Nat → Nat) (v h e : Nat) (wr : World) (sn : Nat → Bool) (b o len cap : Nat) (f : Nat → Nat) : Prop where
  st : RSt w n wr sn b o len cap f
  rl : RL n s A sn h len f v
  hh : h ≤ len
  ed : ∀ x, F v ≤ x → x < e → sn (G x) = true
  si : sn v = true

set_option maxRecDepth 100000 in
set_option maxHeartbeats 4000000 in
theorem reachable_any (w : World) (fb gb n m s : Nat) (A : Nat → Nat → Prop) (F G : Nat → Nat) (hR : Rows w fb gb n m F G) (hC : CSR n m A F G) (hA : ∀ u x, u < n → A u x → x < n) (hn : n ≤ 4096) (hm : m ≤ 4096) (hs : s < n) :
    Calls Try.prog 25 #[.int .i64 n, .slice (some ⟨fb, 0, none⟩) (n + 1) (n + 1), .slice (some ⟨gb, 0, none⟩) m m, .int .i64 s] w fun e w' =>
      e = .returned (.slice (some ⟨w.heap.size, 0, none⟩) n n) ∧ (∃ sn : Nat → Bool, w'.rowIs w.heap.size 4 n (fun i => .bool (sn i)) ∧ ∀ i, i < n → (sn i = true ↔ Reach A s i)) ∧ Below w.heap.size w w' := by
  have mk1 := run_make_bools n (by omega) w
  obtain ⟨w1, hw1⟩ : ∃ w1, w1 = w.alloc (.cells (madeCells #[.bool false] n) 4) := ⟨_, rfl⟩
  have hst := rst_start w hs
  rw [← hw1] at mk1 hst
  have d1 : w1.cell? ⟨w.heap.size, s, none⟩ = some (.bool false) := by rw [hw1]; exact (World.rowIs_made w (.bool false) n 4).cell hs
  have d2 : w1.frozen? ⟨w.heap.size, s, none⟩ = false := by rw [hw1]; exact (World.rowIs_made w (.bool false) n 4).frozen s
  have d3 : w1.heap.size = w.heap.size + 1 := by rw [hw1]; simp
  have hs' : (s : Int) < (n : Int) := by omega
  have HST := (show Hid (RSt w n ((w1.setCell ⟨w.heap.size, s, none⟩ (.bool true)).alloc (.cells #[.int .i64 (s : Int)] 3)) (mark (fun _ => false) s) (w.heap.size + 1) 0 1 1 (fun _ => s)) from hst)
  clear hst hw1
  go_enter Try.func25, Try.ntmps25
  go_wp2_with fail
  go_loopg [10, 11] n (fun gk t z wr => ∃ sn b o len cap f, ∃ h : Nat, h + gk = n ∧ h ≤ len ∧ z = .int .i64 h ∧ t = .slice (some ⟨b, o, none⟩) len cap ∧ RSt w n wr sn b o len cap f ∧ RL n s A sn h len f n)
  case atStart =>
    exact ⟨_, w.heap.size + 1, 0, 1, 1, _, 0, by omega, by omega, rfl, by first | rfl | rw [d3], HST.out, RL.start hs⟩
  case round =>
    clear HST d1 d2 mk1
    obtain ⟨sn, b, o, len, cap, f, h, hh, hhl, rfl, rfl, hst, hrl⟩ := hrel
    have hfew := hrl.few
    by_cases hlt : h < len
    · have hlt' : (h : Int) < (len : Int) := by omega
      obtain ⟨v, hv⟩ : ∃ v, v = f h := ⟨_, rfl⟩
      have hsv := hrl.st h hlt
      have t1 := hst.app.seg h hlt
      have hrl2 := hrl.pop
      rw [← hv] at hsv t1 hrl2
      have hvn := hsv.1
      have hvn' : (v : Int) < (n : Int) + 1 := by omega
      have hR2 : ∀ wx, Below w.heap.size w wx → wx.cell? ⟨fb, v + 1, none⟩ = some (.int .i64 (F (v + 1))) ∧ ∀ e, e < m → wx.cell? ⟨gb, e, none⟩ = some (.int .i64 (G e)) := fun wx hb => ⟨(hR.below hb).f.cell (by omega), fun e he => (hR.below hb).g.cell he⟩
      have c1 : wr.cell? ⟨fb, v, none⟩ = some (.int .i64 (F v)) := (hR.below hst.bel).f.cell (by omega)
      have HR2 := (show Hid (∀ wx, Below w.heap.size w wx → wx.cell? ⟨fb, v + 1, none⟩ = some (.int .i64 (F (v + 1))) ∧ ∀ e, e < m → wx.cell? ⟨gb, e, none⟩ = some (.int .i64 (G e))) from hR2)
      have HC : Hid (CSR n m A F G) := hC
      have t2 := hC.top (v + 1) (by omega)
      have t3 := hC.mono v hvn
      have HM : Hid (Mid w n s A F G v (h + 1) (F v) wr sn b o len cap f) := { st := hst, rl := hrl2, hh := by omega, ed := fun x h1 h2 => by omega, si := hsv.2 }
      obtain ⟨f0, hf0⟩ : ∃ f0, f0 = F v := ⟨_, rfl⟩
      obtain ⟨f1, hf1⟩ : ∃ f1, f1 = F (v + 1) := ⟨_, rfl⟩
      rw [← hf0] at c1 t3 HM
      rw [← hf1] at t2 t3 HR2
      have HF : Hid (f0 = F v ∧ f1 = F (v + 1)) := ⟨hf0, hf1⟩
      clear hR2 hrl hrl2 hst hv hsv hf0 hf1
      obtain ⟨Gk, hG⟩ : ∃ g, g = gk := ⟨_, rfl⟩
      subst hG
      go_wp2_with fail
      go_loopg [10, 13] (f1 - f0) (fun gk t z wr => ∃ sn b o len cap f, ∃ e : Nat, e + gk = f1 ∧ f0 ≤ e ∧ z = .int .i64 e ∧ t = .slice (some ⟨b, o, none⟩) len cap ∧ Mid w n s A F G v (h + 1) e wr sn b o len cap f)
      case atStart => exact ⟨sn, b, o, len, cap, f, f0, by omega, by omega, rfl, rfl, HM.out⟩
      case round =>
        clear HM t1 hfew
        obtain ⟨sn, b, o, len, cap, f, e, he, he0, rfl, rfl, hmid⟩ := hrel
        have c2 := (HR2.out wr hmid.st.bel).1
        have hfew := hmid.rl.few
        by_cases hlt : e < f1
        · have hlt2 : (e : Int) < (f1 : Int) := by omega
          have hem : (e : Int) < (m : Int) := by omega
          have c3 := (HR2.out wr hmid.st.bel).2 e (by omega)
          have hsn1 := HC.out.snd v hvn e (by rw [← HF.out.1]; exact he0) (by rw [← HF.out.2]; exact hlt)
          obtain ⟨p, hp⟩ : ∃ p, p = G e := ⟨_, rfl⟩
          rw [← hp] at c3 hsn1
          have hpn := hsn1.1
          have hpn' : (p : Int) < (n : Int) := by omega
          have r1 := hmid.st.row.cell hpn
          have r2 := hmid.st.row.frozen p
          have HX : Hid (p = G e ∧ A v p) := ⟨hp, hsn1.2⟩
          have HMD : Hid (Mid w n s A F G v (h + 1) e wr sn b o len cap f) := hmid
          have hap := hmid.st.appv p
          clear hp hsn1 hmid
          cases hsn : sn p with
          | true =>
            rw [hsn] at r1
            have HSN : Hid (sn p = true) := hsn
            clear hsn hap
            go_wp2_with fail
            go_roundg (gk - 1)
            case measure => omega
            case rel =>
              have H := HMD.out
              have h2 : ∀ x, F v ≤ x → x < e + 1 → sn (G x) = true := fun x hx1 hx2 => by
                by_cases e2 : x = e
                · rw [e2, ← HX.out.1]; exact HSN.out
                · exact H.ed x hx1 (by omega)
              exact ⟨sn, b, o, len, cap, f, e + 1, by omega, by omega, by go_num, rfl, { H with ed := h2 }⟩
          | false =>
            rw [hsn] at r1
            have HSN : Hid (sn p = false) := hsn
            clear hsn
            go_wp2_with (at_builtin; refine wpList_append_app rfl (.tmp 57) (.tmp 59) 22 rfl 3 (.int .i64 0) 8 Try.underlying22 Try.info3 rfl (.slice (some ⟨b, o, none⟩) len cap) rfl len (fun k => .int .i64 (f k)) hap _ rfl 1 [.int .i64 (p : Int)] (src_one_set p) (by omega) (by omega) (by omega) ?_; intro b2 o2 cp2 w4 hA1 hown1 hg1 hlt1)
            go_wp2_with fail
            go_roundg (gk - 1)
            case measure => omega
            case rel =>
              have H := HMD.out
              have h2 : ∀ x, F v ≤ x → x < e + 1 → mark sn p (G x) = true := fun x hx1 hx2 => by
                by_cases e2 : x = e
                · rw [e2, ← HX.out.1]; simp [mark]
                · exact mark_keeps (H.ed x hx1 (by omega))
              exact ⟨_, b2, o2, len + 1, cp2, _, e + 1, by omega, by omega, by go_num, rfl, { st := rst_push H.st hpn hA1 hown1 hg1, rl := H.rl.push H.hh hpn HSN.out ((H.rl.re v hvn H.si).step HX.out.2), hh := by have := H.hh; omega, ed := h2, si := mark_keeps H.si }⟩
        · have hlt2 : ¬ (e : Int) < (f1 : Int) := by omega
          have e1 : e = f1 := by omega
          have HMD : Hid (Mid w n s A F G v (h + 1) f1 wr sn b o len cap f) := by rw [← e1]; exact hmid
          have hh3 := hmid.hh
          clear hmid e1
          go_wp2_with fail
          go_roundg (Gk - 1)
          case measure => omega
          case rel =>
            have H := HMD.out
            exact ⟨sn, b, o, len, cap, f, h + 1, by omega, hh3, by go_num, rfl, H.st, H.rl.leave (fun p hp => by
              obtain ⟨x, hx1, hx2, hx3⟩ := HC.out.cmp v hvn p hp
              rw [← hx3]
              exact H.ed x hx1 (by rw [HF.out.2]; exact hx2))⟩
    · have hlt' : ¬ (h : Int) < (len : Int) := by omega
      have e : h = len := by omega
      subst e
      have HX : Hid (RSt w n wr sn b o h cap f ∧ ∀ i, i < n → (sn i = true ↔ Reach A s i)) := ⟨hst, hrl.done hs hA⟩
      clear hst hrl
      go_wp2_with fail
      go_ret
      exact ⟨rfl, ⟨sn, HX.out.1.row, HX.out.2⟩, HX.out.1.bel⟩

end Go.Proofs.Qxb6600486a

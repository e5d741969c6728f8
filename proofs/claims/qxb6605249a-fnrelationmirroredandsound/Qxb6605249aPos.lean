/-
  THE WALK OF zzPositions.
-/
import Derived.Test.Qxb6605249aInput
import Derived.Deep.Slices
set_option linter.unusedVariables false
set_option linter.unusedSimpArgs false
namespace Go.Proofs.Qxb6605249a
open Go.RowKit

/-- Where sender s's (k+1)-th message stands among the first i deliveries. -/
def posTo (J : Nat → Nat) : Nat → Nat → Nat → Nat
  | 0, _, _ => 0
  | i + 1, s, k => if J i = s ∧ k = cntTo J i s then i else posTo J i s k

theorem posTo_law (J : Nat → Nat) (s k : Nat) : ∀ i, k < cntTo J i s → posTo J i s k < i ∧ J (posTo J i s k) = s ∧ cntTo J (posTo J i s k) s = k
  | 0, h => by rw [cntTo] at h; omega
  | i + 1, h => by
    rw [posTo]
    by_cases e : J i = s ∧ k = cntTo J i s
    · rw [if_pos e]; exact ⟨by omega, e.1, e.2.symm⟩
    · rw [if_neg e]
      have : k < cntTo J i s := by
        rw [cntTo] at h
        split at h
        · next h1 => by_cases e2 : k = cntTo J i s
                     · exact absurd ⟨h1, e2⟩ e
                     · omega
        · exact h
      have := posTo_law J s k i this
      exact ⟨by omega, this.2⟩

theorem run_make_rows (n : Nat) (hn : n ≤ 4096) (w : World) : (Instr.makeSlice 25 (.int .i64 (n : Int)) (.int .i64 (n : Int))).run Try.prog w =
    .ok (.slice (some ⟨w.heap.size, 0, none⟩) n n) (w.alloc (.cells (madeCells #[.slice none 0 0] n) 23)) := by
  obtain ⟨i, hi, hz, hs, hb⟩ := info_parts Try.info23
  have hr := run_make (P := Try.prog) w 25 23 i _ Try.underlying25 hi hz .i64 .i64 n n (by omega) (Int.le_refl _) (by rw [hb]; omega) (by omega)
  simp only [Int.toNat_natCast, hs, Nat.mul_one] at hr
  exact hr

structure PosSt (w : World) (n : Nat) (J : Nat → Nat) (i : Nat) (wr : World) (V : Nat → Value) : Prop where
  blk : Blk wr w.heap.size 23 n
  c : ∀ s, s < n → wr.cell? ⟨w.heap.size, s, none⟩ = some (V s)
  a : ∀ s, s < n → AppV wr 3 (V s) (cntTo J i s) (fun k => .int .i64 (posTo J i s k))
  ob : ∀ s, s < n → ∀ b, (V s).ownBlock = some b → w.heap.size < b ∧ b < wr.heap.size
  sep : ∀ s t, s < n → t < n → s ≠ t → ∀ b, (V s).ownBlock = some b → (V t).ownBlock ≠ some b
  bel : Below w.heap.size w wr

theorem pos_start (w : World) (n : Nat) (J : Nat → Nat) : PosSt w n J 0 (w.alloc (.cells (madeCells #[.slice none 0 0] n) 23)) (fun _ => .slice none 0 0) :=
  { blk := ⟨_, heap_alloc_new w _, size_madeCells _ _⟩
    c := fun s hs => by
      rw [cell_of_row _ _ s _ 23 (0, 0) (heap_alloc_new w _)]
      simp [madeCells, hs, Nat.mod_one]
    a := fun s hs => .inl ⟨rfl, rfl⟩
    ob := fun s hs b hb => by simp [Value.ownBlock] at hb
    sep := fun s t hs ht hne b hb => by simp [Value.ownBlock] at hb
    bel := (Below.refl _ _).alloc (Nat.le_refl _) _ }

theorem pos_step {w wr w1 w2 : World} {n : Nat} {J : Nat → Nat} {i : Nat} {V : Nat → Value} (h : PosSt w n J i wr V) (hj : J i < n) (hw1 : Below wr.heap.size wr w1) {b o cap : Nat} {f : Nat → Value} (hf : f = fun k => .int .i64 (posTo J i (J i) k))
    (hA : App w2 3 b o (cntTo J i (J i) + 1) cap (fun k => if k < cntTo J i (J i) then f k else [Value.int .i64 (i : Int)].getD (k - cntTo J i (J i)) undef))
    (hown : (V (J i)).ownBlock = some b ∨ b = w1.heap.size) (hg : w1.grownBy w2 (V (J i)).ownBlock) (m : Nat) :
    ∃ V', PosSt w n J (i + 1) ((w2.setCell ⟨w.heap.size, J i, none⟩ (.slice (some ⟨b, o, none⟩) (cntTo J i (J i) + 1) cap)).drewN m) V' := by
  have lpb := h.blk.lt
  have hne : b ≠ w.heap.size := by
    rcases hown with e | e
    · have := (h.ob _ hj b e).1; omega
    · have := hw1.size; omega
  have hnv : ∀ b', (V (J i)).ownBlock = some b' → b' ≠ w.heap.size := fun b' e => by have := (h.ob _ hj b' e).1; omega
  have hpb : w2.heap[w.heap.size]? = wr.heap[w.heap.size]? := (hg.block _ (Nat.lt_of_lt_of_le lpb hw1.size) (fun e => hnv _ e.symm rfl)).trans (hw1.block _ lpb)
  have hset : ∀ b', b' ≠ w.heap.size → ((w2.setCell ⟨w.heap.size, J i, none⟩ (.slice (some ⟨b, o, none⟩) (cntTo J i (J i) + 1) cap)).drewN m).heap[b']? = w2.heap[b']? := fun b' hb' => by
    rw [World.heap_drewN]
    exact heap_setCell_other _ _ _ _ (by simpa using hb')
  have hsz : w1.heap.size ≤ w2.heap.size := hg.size
  refine ⟨fun t => if t = J i then .slice (some ⟨b, o, none⟩) (cntTo J i (J i) + 1) cap else V t, ?_⟩
  have hbel : Below wr.heap.size wr w1 := hw1
  have hbl : b < w2.heap.size := hA.lt
  have keep : ∀ t, t < n → t ≠ J i → ∀ b', (V t).ownBlock = some b' → ((w2.setCell ⟨w.heap.size, J i, none⟩ (.slice (some ⟨b, o, none⟩) (cntTo J i (J i) + 1) cap)).drewN m).heap[b']? = wr.heap[b']? := fun t ht hne' b' e => by
    have h1 := h.ob t ht b' e
    rw [hset b' (by omega), hg.block b' (Nat.lt_of_lt_of_le h1.2 hw1.size) (fun e2 => h.sep t (J i) ht hj hne' b' e e2.symm), hw1.block b' h1.2]
  obtain ⟨cc, hcc, hcs⟩ := h.blk
  have hblk2 : Blk w2 w.heap.size 23 n := ⟨cc, hpb.trans hcc, hcs⟩
  have hcell2 : ∀ s, s < n → w2.cell? ⟨w.heap.size, s, none⟩ = some (V s) := fun s hs => cell_keep hpb (h.c s hs)
  exact
    { blk := (hblk2.set _ _).of_block (by rw [World.heap_drewN])
      c := fun s hs => by
        rw [World.cell?_drewN]
        by_cases e : s = J i
        · rw [if_pos e, e]
          exact World.cell?_setCell_same _ _ _ (hcell2 _ hj)
        · rw [if_neg e, World.cell?_setCell_other _ _ _ _ (addr_ne (by omega))]
          exact hcell2 s hs
      a := fun s hs => by
        by_cases e : s = J i
        · subst e
          rw [if_pos rfl]
          have e2 : cntTo J (i + 1) (J i) = cntTo J i (J i) + 1 := by rw [cntTo, if_pos rfl]
          rw [e2]
          refine .inr ⟨b, o, cap, rfl, (hA.of_block (hset b hne)).congr fun k hk => ?_⟩
          by_cases hk2 : k < cntTo J i (J i)
          · rw [if_pos hk2, hf]
            show Value.int .i64 _ = Value.int .i64 _
            rw [posTo, if_neg (by omega)]
          · have : k = cntTo J i (J i) := by omega
            rw [if_neg hk2, posTo, if_pos ⟨rfl, this⟩, this, Nat.sub_self]
            rfl
        · rw [if_neg e]
          have e2 : cntTo J (i + 1) s = cntTo J i s := by rw [cntTo, if_neg (fun e2 => e e2.symm)]
          rw [e2]
          have := (h.a s hs).of_block (keep s hs e)
          have e3 : (fun k => Value.int .i64 ((posTo J (i + 1) s k : Nat) : Int)) = fun k => Value.int .i64 ((posTo J i s k : Nat) : Int) := by
            funext k
            rw [posTo, if_neg (fun e2 => e e2.1.symm)]
          rw [e3]
          exact this
      ob := fun s hs b' e => by
        have hsz2 : ((w2.setCell ⟨w.heap.size, J i, none⟩ (.slice (some ⟨b, o, none⟩) (cntTo J i (J i) + 1) cap)).drewN m).heap.size = w2.heap.size := by rw [World.heap_drewN]; simp [World.setCell]
        rw [hsz2]
        by_cases e1 : s = J i
        · simp only [if_pos e1, Value.ownBlock] at e
          have e' : b = b' := by simpa using e
          subst e'
          refine ⟨?_, hbl⟩
          rcases hown with e | e
          · exact (h.ob _ hj b e).1
          · have := hw1.size; omega
        · rw [if_neg e1] at e
          have := h.ob s hs b' e
          have := hw1.size
          omega
      sep := fun s t hs ht hst b' e => by
        by_cases e1 : s = J i
        · have e2 : ¬ t = J i := fun e2 => hst (e1.trans e2.symm)
          simp only [if_pos e1, Value.ownBlock] at e
          have e' : b = b' := by simpa using e
          subst e'
          rw [if_neg e2]
          intro e3
          rcases hown with e | e
          · exact h.sep (J i) t hj ht (fun e4 => e2 e4.symm) b e e3
          · have := (h.ob t ht b e3).2; have := hw1.size; omega
        · rw [if_neg e1] at e
          by_cases e2 : t = J i
          · simp only [if_pos e2, Value.ownBlock]
            intro e3
            have e' : b = b' := by simpa using e3
            subst e'
            rcases hown with e4 | e4
            · exact h.sep s (J i) hs hj e1 b e e4
            · have := (h.ob s hs b e).2; have := hw1.size; omega
          · rw [if_neg e2]
            exact h.sep s t hs ht hst b' e
      bel := by
        have k1 : Below w.heap.size w1 w2 := (Below.refl _ _).grown hg (Nat.le_trans h.bel.size hw1.size) (fun b' e => Nat.le_of_lt (h.ob _ hj b' e).1)
        exact below_drewN ((h.bel.trans ((hw1.mono h.bel.size).trans k1)).setCell (p := ⟨w.heap.size, J i, none⟩) (Nat.le_refl _) _) m }

/-- The table of positions, as zzPositions hands it back. -/
structure PosT (w : World) (pb n L : Nat) (J : Nat → Nat) (A : Nat → Option Addr) (C : Nat → Nat) : Prop where
  lt : pb < w.heap.size
  c : ∀ s, s < n → w.cell? ⟨pb, s, none⟩ = some (.slice (A s) (cntTo J L s) (C s))
  a : ∀ s, s < n → 0 < cntTo J L s → ∃ b o, A s = some ⟨b, o, none⟩ ∧ b < w.heap.size ∧ ∀ k, k < cntTo J L s → w.cell? ⟨b, o + k, none⟩ = some (.int .i64 (posTo J L s k))

theorem PosT.below {w w' : World} {pb n L : Nat} {J : Nat → Nat} {A : Nat → Option Addr} {C : Nat → Nat} (h : PosT w pb n L J A C) (hb : Below w.heap.size w w') : PosT w' pb n L J A C :=
  { lt := Nat.lt_of_lt_of_le h.lt hb.size
    c := fun s hs => by rw [hb.cell (p := ⟨pb, s, none⟩) h.lt]; exact h.c s hs
    a := fun s hs h0 => by
      obtain ⟨b, o, h1, h2, h3⟩ := h.a s hs h0
      exact ⟨b, o, h1, Nat.lt_of_lt_of_le h2 hb.size, fun k hk => by rw [hb.cell (p := ⟨b, o + k, none⟩) h2]; exact h3 k hk⟩ }

theorem posT_of {w wr : World} {n L : Nat} {J : Nat → Nat} {V : Nat → Value} (h : PosSt w n J L wr V) : ∃ A C, PosT wr w.heap.size n L J A C := by
  have key : ∀ s, s < n → ∃ y : Option Addr × Nat, V s = .slice y.1 (cntTo J L s) y.2 ∧ (0 < cntTo J L s → ∃ b o, y.1 = some ⟨b, o, none⟩ ∧ b < wr.heap.size ∧ ∀ k, k < cntTo J L s → wr.cell? ⟨b, o + k, none⟩ = some (.int .i64 (posTo J L s k))) := fun s hs => by
    rcases h.a s hs with ⟨h1, h2⟩ | ⟨b, o, cap, h1, h2⟩
    · exact ⟨(none, 0), by rw [h1, h2], fun h3 => by omega⟩
    · exact ⟨(some ⟨b, o, none⟩, cap), h1, fun _ => ⟨b, o, rfl, h2.lt, fun k hk => h2.seg k hk⟩⟩
  obtain ⟨y, hy⟩ := Go.Deep.choose_lt key
  exact ⟨fun s => (y s).1, fun s => (y s).2, { lt := h.blk.lt, c := fun s hs => by rw [h.c s hs, (hy s hs).1], a := fun s hs => (hy s hs).2 }⟩

set_option maxRecDepth 100000 in
set_option maxHeartbeats 2000000 in
theorem positions_any (w : World) (jb jo L jc n : Nat) (J : Nat → Nat) (hjb : jb < w.heap.size) (hJ : ∀ k, k < L → w.cell? ⟨jb, jo + k, none⟩ = some (.int .i64 (J k))) (hn : n ≤ 4096) (hL : L ≤ 4096) (hjn : ∀ k, k < L → J k < n) :
    Calls Try.prog 18 #[.int .i64 n, .slice (some ⟨jb, jo, none⟩) L jc] w fun e w' => e = .returned (.slice (some ⟨w.heap.size, 0, none⟩) n n) ∧ (∃ A C, PosT w' w.heap.size n L J A C) ∧ Below w.heap.size w w' := by
  have hmk := run_make_rows n hn
  go_enter Try.func18, Try.ntmps18
  go_wp2
  clear hmk
  go_loopg [6] L (fun gk t wr => ∃ k : Nat, k + gk = L ∧ t = .int .i64 k ∧ ∃ V, PosSt w n J k wr V)
  case atStart => exact ⟨0, by omega, rfl, _, pos_start w n J⟩
  case round =>
    obtain ⟨i, hk, rfl, V, hV⟩ := hrel
    by_cases hlt : i < L
    · have hji := hjn i hlt
      have d0 : wr.cell? ⟨jb, jo + i, none⟩ = some (.int .i64 (J i)) := by rw [hV.bel.cell (p := ⟨jb, jo + i, none⟩) hjb]; exact hJ i hlt
      have d1 := hV.c (J i) hji
      have d2 := hV.blk.frozen (J i)
      have hlt' : (i : Int) < (L : Int) := by omega
      have hji' : (J i : Int) < (n : Int) := by omega
      have lj : jb < wr.heap.size := Nat.lt_of_lt_of_le hjb hV.bel.size
      have lp := hV.blk.lt
      have ha := hV.a (J i) hji
      have hlen := cntTo_le J i (J i)
      obtain ⟨j, hj⟩ : ∃ j, j = J i := ⟨_, rfl⟩
      obtain ⟨v, hv⟩ : ∃ v, v = V (J i) := ⟨_, rfl⟩
      obtain ⟨len, hlen2⟩ : ∃ len, len = cntTo J i (J i) := ⟨_, rfl⟩
      have nown1 : v.ownBlock ≠ some w.heap.size := fun e => by rw [hv] at e; have := (hV.ob _ hji _ e).1; omega
      have nown2 : v.ownBlock ≠ some jb := fun e => by rw [hv] at e; have := (hV.ob _ hji _ e).1; omega
      rw [← hlen2] at hlen ha
      rw [← hv] at d1 ha
      rw [← hj] at d0 d1 d2 hji hji'
      have bD : Below wr.heap.size wr (wr.alloc (.cells #[.int .i64 (i : Int)] 3)).drew := ((Below.refl _ _).alloc (Nat.le_refl _) _).drew
      have HVD : AppV (wr.alloc (.cells #[.int .i64 (i : Int)] 3)).drew 3 v len (fun k => .int .i64 (posTo J i (J i) k)) := ha.of_block (fun b hb => bD.block b (by
        rw [hv] at hb
        exact (hV.ob _ (hjn i hlt) b hb).2))
      have HSD : Src Try.prog 1 23 (.slice (some ⟨wr.heap.size, 0, none⟩) 1 1) 1 [.int .i64 (i : Int)] (wr.alloc (.cells #[.int .i64 (i : Int)] 3)).drew :=
        Src.ofSlice _ Try.underlying23 ⟨wr.heap.size, 0, none⟩ 1 1 _ (by simp) (World.news_of_block (cs := #[.int .i64 (i : Int)]) (t := 3) (fr := (0, 0)) (heap_alloc_new wr _)) (by simp [Value.oneCell'])
      have HXD : Hid ((wr.alloc (.cells #[.int .i64 (i : Int)] 3)).drew.cell? ⟨w.heap.size, j, none⟩ = some v ∧ (wr.alloc (.cells #[.int .i64 (i : Int)] 3)).drew.frozen? ⟨w.heap.size, j, none⟩ = false ∧ w.heap.size < (wr.alloc (.cells #[.int .i64 (i : Int)] 3)).drew.heap.size ∧ (wr.alloc (.cells #[.int .i64 (i : Int)] 3)).drew.cell? ⟨jb, jo + i, none⟩ = some (.int .i64 j) ∧ jb < (wr.alloc (.cells #[.int .i64 (i : Int)] 3)).drew.heap.size) :=
        ⟨cell_keep (bD.block _ lp) d1, (bD.frozen (p := ⟨w.heap.size, j, none⟩) lp).trans d2, Nat.lt_of_lt_of_le lp bD.size, cell_keep (bD.block _ lj) d0, Nat.lt_of_lt_of_le lj bD.size⟩
      have HH : Hid (PosSt w n J i wr V ∧ J i < n ∧ j = J i ∧ v = V (J i) ∧ len = cntTo J i (J i) ∧ Below wr.heap.size wr (wr.alloc (.cells #[.int .i64 (i : Int)] 3)).drew) := ⟨hV, hjn i hlt, hj, hv, hlen2, bD⟩
      clear hV ha hj hv hlen2 bD hJ hjn
      go_cut [6] (fun t wc => t = .int .i64 ((i : Int) + 1) ∧ ∃ V', PosSt w n J (i + 1) wc V')
      case first =>
        go_wp2_with fail
        go_region_law (refine step_append_app (by rfl) (.tmp 26) (.tmp 28) 23 (by rfl) 3 (.int .i64 0) 8 Try.underlying23 Try.info3 rfl v (by rfl) len (fun k => .int .i64 (posTo J i (J i) k)) (by exact HVD) _ (by rfl) 1 [.int .i64 (i : Int)] (by exact HSD) (by omega) (by omega) (by omega) ?_; intro b2 o2 cp2 w4 hA2 hown2 hg2 hlt2; have y1 := cell_keep (hg2.block w.heap.size HXD.out.2.2.1 (Ne.symm nown1)) HXD.out.1; have y2 := (hg2.frozen_far ⟨w.heap.size, j, none⟩ HXD.out.2.2.1 (Ne.symm nown1)).trans HXD.out.2.1; have y3 := cell_keep (hg2.block jb HXD.out.2.2.2.2 (Ne.symm nown2)) HXD.out.2.2.2.1)
        all_goals
          go_wp2_with fail
          go_meet
          case rel =>
            obtain ⟨a1, a2, rfl, rfl, rfl, a6⟩ := HH.out
            exact ⟨rfl, pos_step a1 a2 a6 rfl hA2 hown2 hg2 0⟩
      case rest =>
        obtain ⟨rfl, hcut⟩ := hcut
        have HR := (show Hid (∃ V', PosSt w n J (i + 1) wc V') from hcut)
        clear hcut HVD HSD d0 d1 d2 lj lp
        go_wp2_with fail
        go_roundg (gk - 1)
        case measure => omega
        case rel =>
          exact ⟨i + 1, by omega, by go_num, HR.out⟩
    · have e : i = L := by omega
      subst e
      have HX : Hid (PosSt w n J i wr V) := hV
      clear hV hJ hjn
      go_wp2_with fail
      go_ret
      exact ⟨rfl, posT_of HX.out, HX.out.bel⟩

end Go.Proofs.Qxb6605249a

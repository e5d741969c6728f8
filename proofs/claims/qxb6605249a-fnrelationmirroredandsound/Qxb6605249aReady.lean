/-
  A VALID SCRIPT IN MEMORY, AND THE CALLS OVER IT.
-/
import Derived.Test.Qxb6605249aShape
import Derived.Test.Qxb6605249aBuild
import Derived.Test.Qxb6605249aPast
import Derived.Test.Qxb6605249aLaw2
set_option linter.unusedVariables false
set_option linter.unusedSimpArgs false
namespace Go.Proofs.Qxb6605249a
open Go.RowKit

structure Ready (w : World) (B n : Nat) (I : Inp) (J S : Nat → Nat) (X Y : Nat → Nat → Nat) : Prop where
  hI : In w B I (fun i => (J i : Int)) S (fun i k => (X i k : Int)) Y
  hB : B ≤ w.heap.size
  hV : Valid n I.L J S I.bL X Y
  hq : ∀ i, i < I.L → I.qL i = I.bL i
  hm : ∀ i, i < I.L → I.bL i ≤ 1048576
  hn1 : 1 ≤ n
  hn2 : n ≤ 4096
  hL : I.L ≤ 4096
  hnL : n * (I.L + 1) ≤ 4194304

theorem Ready.below {w w' : World} {B n : Nat} {I : Inp} {J S : Nat → Nat} {X Y : Nat → Nat → Nat} (h : Ready w B n I J S X Y) (hb : Below w.heap.size w w') : Ready w' B n I J S X Y :=
  { h with hI := h.hI.below hb h.hB, hB := Nat.le_trans h.hB hb.size }

theorem ready_of {w : World} {B : Nat} {ja sa ba qa : Option Addr} {jl sl bl ql : Nat} {J : Nat → Int} {S : Nat → Nat} {bA : Nat → Option Addr} {bL bC : Nat → Nat} {qA : Nat → Option Addr} {qL qC : Nat → Nat} {X : Nat → Nat → Int} {Y : Nat → Nat → Nat} {n : Int}
    (h : Arg w B ja sa ba qa jl sl bl ql J S bA bL bC qA qL qC X Y) (hB : B ≤ w.heap.size) (hF : Fits n jl sl bl ql J S bL qL X Y) (hm : ∀ i, i < bl → bL i ≤ 1048576) (h0 : 0 < jl) (jc sc bc qc : Nat) :
    ∃ (k : Nat) (I : Inp) (J' : Nat → Nat) (X' : Nat → Nat → Nat), n = k ∧ I.js = .slice ja jl jc ∧ I.seqs = .slice sa sl sc ∧ I.bs = .slice ba bl bc ∧ I.bq = .slice qa ql qc ∧ I.L = jl ∧ (∀ i, i < jl → J i = J' i) ∧ Ready w B k I J' S X' Y := by
  obtain ⟨f1, f2, f3, f4, f5, f6, f7, f8⟩ := hF
  obtain ⟨I, e1, e2, e3, e4, e5, e6, e7, hI⟩ := h.inp h0 f5 f6 f7 jc sc bc qc
  obtain ⟨k, rfl⟩ : ∃ k : Nat, n = k := ⟨n.toNat, by omega⟩
  have hto : (k : Int).toNat = k := by simp
  rw [hto] at f8
  have hJ : ∀ i, i < jl → J i = ((J i).toNat : Int) := fun i hi => by have := (f8 i hi).1; omega
  refine ⟨k, I, fun i => (J i).toNat, fun i x => (X i x).toNat, rfl, e1, e2, e3, e4, e5, hJ, ?_⟩
  exact
    { hI := hI.congr (fun i hi => hJ i (by omega)) (fun i hi x hx => by
        have := (f8 i (by omega)).2.2.2.1 x (by rw [e6] at hx; exact hx)
        show X i x = ((X i x).toNat : Int)
        omega)
      hB := hB
      hV := { j := fun i hi => by
                have := f8 i (by omega)
                have h1 := this.1; have h2 := this.2.1
                show (J i).toNat < k
                omega
              s := fun i hi => (f8 i (by omega)).2.2.2.2
              x := fun i hi x hx => by
                have := (f8 i (by omega)).2.2.2.1 x (by rw [e6] at hx; exact hx)
                refine ⟨?_, this.2.2.1, this.2.2.2⟩
                have h1 := this.1; have h2 := this.2.1
                show (X i x).toNat < k
                omega }
      hq := fun i hi => by rw [e6, e7]; exact (f8 i (by omega)).2.2.1.symm
      hm := fun i hi => by rw [e6]; exact hm i (by omega)
      hn1 := by omega, hn2 := by omega, hL := by omega
      hnL := by
        rw [e5]
        have h1 : ((k * (jl + 1) : Nat) : Int) ≤ 4194304 := by
          rw [Int.natCast_mul]
          simpa using f4
        omega }

/-- The graph that zzBuild hands back. -/
structure Grf (w : World) (n keep : Nat) (I : Inp) (J S : Nat → Nat) (X Y : Nat → Nat → Nat) (gb : Nat) (g : GS) (R : Rep) : Prop where
  gc : GC w R g
  ok : GOk g
  law : Law n keep I.L J S I.bL X Y I.L g
  gn : g.n = n
  cnt : ∀ s, g.cnt s = cntTo J I.L s
  gbe : R.gb = gb

theorem Grf.below {w w' : World} {n keep : Nat} {I : Inp} {J S : Nat → Nat} {X Y : Nat → Nat → Nat} {gb : Nat} {g : GS} {R : Rep} (h : Grf w n keep I J S X Y gb g R) (hb : Below w.heap.size w w') : Grf w' n keep I J S X Y gb g R :=
  { h with gc := h.gc.below hb }

section
variable {w : World} {B n : Nat} {I : Inp} {J S : Nat → Nat} {X Y : Nat → Nat → Nat}

theorem Ready.build (h : Ready w B n I J S X Y) (keep : Nat) :
    Calls Try.prog 13 #[.int .i64 n, .int .u64 keep, I.js, I.seqs, I.bs, I.bq] w fun e w' => ∃ gb, e = .returned (.pointer (some ⟨gb, 0, none⟩)) ∧ (∃ g R, Grf w' n keep I J S X Y gb g R) ∧ Below w.heap.size w w' := by
  refine (build_any I n keep B J S X Y w h.hI h.hB h.hV h.hq h.hm h.hn1 h.hn2 h.hL h.hnL).mono ?_
  rintro e w' ⟨gb, he, g, R, hst⟩
  have hb := built_base hst.built
  exact ⟨gb, he, ⟨g, R, { gc := hst.gc, ok := built_ok h.hn1 h.hn2 hst.built, law := law_built h.hV h.hn1 h.hn2 I.L g (Nat.le_refl _) hst.built, gn := hb.1, cnt := hb.2.2.2, gbe := hst.gbe }⟩, hst.bel⟩

theorem Ready.pos (h : Ready w B n I J S X Y) :
    Calls Try.prog 18 #[.int .i64 n, I.js] w fun e w' => e = .returned (.slice (some ⟨w.heap.size, 0, none⟩) n n) ∧ (∃ A C, PosT w' w.heap.size n I.L J A C) ∧ Below w.heap.size w w' :=
  positions_any w I.jb I.jo I.L I.jc n J (Nat.lt_of_lt_of_le h.hI.bJ h.hB) h.hI.cJ h.hn2 h.hL h.hV.j

theorem Ready.reach (h : Ready w B n I J S X Y) {pb : Nat} (hP : ∃ A C, PosT w pb n I.L J A C) {f : Nat} (hf : f < I.L) :
    Calls Try.prog 17 #[I.js, I.seqs, I.bs, I.bq, .slice (some ⟨pb, 0, none⟩) n n, .int .i64 f] w fun e w' => e = .returned (.slice (some ⟨w.heap.size, 0, none⟩) I.L I.L) ∧
      (∃ sn : Nat → Bool, w'.rowIs w.heap.size 4 I.L (fun i => .bool (sn i)) ∧ ∀ i, i < I.L → (sn i = true ↔ Reach (EdgeP I.L J S I.bL X Y) f i)) ∧ Below w.heap.size w w' := by
  obtain ⟨A, C, hP⟩ := hP
  exact reach_any I n B J S X Y w h.hI h.hB h.hV h.hq h.hm h.hn2 h.hL pb A C hP f hf

theorem Ready.past (h : Ready w B n I J S X Y) {mb : Nat} {sn : Nat → Bool} (hM : w.rowIs mb 4 I.L (fun i => .bool (sn i))) :
    Calls Try.prog 16 #[.int .i64 n, I.js, I.seqs, .slice (some ⟨mb, 0, none⟩) I.L I.L] w fun e w' =>
      e = .returned (.slice (some ⟨w.heap.size, 0, none⟩) n n) ∧ w'.rowIs w.heap.size 22 n (fun s => u64 (pastTo J S sn I.L s)) ∧ Below w.heap.size w w' :=
  modelPast_any w I.jb I.jo I.jc I.sb I.so I.sc mb I.L n J S sn (Nat.lt_of_lt_of_le h.hI.bJ h.hB) (Nat.lt_of_lt_of_le h.hI.bS h.hB) h.hI.cJ h.hI.cS hM h.hn2 h.hL h.hV.j

theorem Ready.rel (h : Ready w B n I J S X Y) {pb : Nat} (hP : ∃ A C, PosT w pb n I.L J A C) {a b : Nat} (ha : a < I.L) (hb : b < I.L) :
    Calls Try.prog 26 #[I.js, I.seqs, I.bs, I.bq, .slice (some ⟨pb, 0, none⟩) n n, .int .i64 a, .int .i64 b] w fun e w' => ∃ r : Nat, e = .returned (.int .i64 r) ∧ MRel (EdgeP I.L J S I.bL X Y) a b r ∧ Below w.heap.size w w' := by
  obtain ⟨A, C, hP⟩ := hP
  exact modelRel_any I n B J S X Y w h.hI h.hB h.hV h.hq h.hm h.hn2 h.hL pb A C hP a b ha hb

theorem posT_below {w w' : World} {pb n L : Nat} {J : Nat → Nat} (h : ∃ A C, PosT w pb n L J A C) (hb : Below w.heap.size w w') : ∃ A C, PosT w' pb n L J A C := by
  obtain ⟨A, C, h⟩ := h
  exact ⟨A, C, h.below hb⟩

variable {keep gb : Nat} {g : GS} {R : Rep}

theorem Grf.lower (h : Grf w n keep I J S X Y gb g R) (hV : Valid n I.L J S I.bL X Y) {p : Nat} (hp : p < I.L) (hk : g.first (J p) ≤ S p) :
    Calls Try.prog 14 #[.pointer (some ⟨gb, 0, none⟩), .int .i64 (J p), .int .u64 (S p)] w fun e w' => ∃ b o c, e = .returned (.slice (some ⟨b, o, none⟩) n c) ∧ b < w.heap.size ∧ Seg w b o n (fun k => u64 (g.L (J p) (S p) k)) ∧ Below w.heap.size w w' := by
  have hs : J p < g.n := by rw [h.gn]; exact hV.j p hp
  have h2 : S p ≤ g.cnt (J p) := by rw [h.cnt]; exact hV.lt_cnt hp hp
  rw [← h.gbe, ← h.gn]
  refine (zzlower_any g R w (J p) (S p) h.gc h.ok hs hk h2).mono ?_
  rintro e w' ⟨rfl, hb⟩
  exact ⟨_, _, _, rfl, h.gc.rlt _ (by rw [h.gc.r6 _ hs (h.ok.at_ hs hk h2).1]; simp), h.gc.lowSeg h.ok hs hk h2, hb⟩

theorem Grf.upper (h : Grf w n keep I J S X Y gb g R) (hV : Valid n I.L J S I.bL X Y) {p : Nat} (hp : p < I.L) (hk : g.first (J p) ≤ S p) :
    Calls Try.prog 15 #[.pointer (some ⟨gb, 0, none⟩), .int .i64 (J p), .int .u64 (S p)] w fun e w' => ∃ b o c, e = .returned (.slice (some ⟨b, o, none⟩) n c) ∧ b < w.heap.size ∧ Seg w b o n (fun k => u64 (g.U (J p) (S p) k)) ∧ Below w.heap.size w w' := by
  have hs : J p < g.n := by rw [h.gn]; exact hV.j p hp
  have h2 : S p ≤ g.cnt (J p) := by rw [h.cnt]; exact hV.lt_cnt hp hp
  obtain ⟨b, o, c, e1, e2, e3, _⟩ := h.gc.upSeg h.ok hs hk h2
  rw [← h.gbe, ← h.gn]
  refine (zzupper_any g R w (J p) (S p) h.gc h.ok hs hk h2).mono ?_
  rintro e w' ⟨rfl, hb⟩
  exact ⟨b, o, c, by rw [e1], h.gc.rlt _ e3, e2, hb⟩

theorem Grf.msg (h : Grf w n keep I J S X Y gb g R) (hV : Valid n I.L J S I.bL X Y) {p : Nat} (hp : p < I.L) : Msg g (J p) (S p) :=
  ⟨by rw [h.gn]; exact hV.j p hp, by have := hV.s p hp; omega, by rw [h.cnt]; exact hV.lt_cnt hp hp⟩

theorem Grf.zzin (h : Grf w n keep I J S X Y gb g R) (hV : Valid n I.L J S I.bL X Y) {x y : Nat} (hx : x < I.L) (hy : y < I.L) :
    Calls Try.prog 22 #[.pointer (some ⟨gb, 0, none⟩), .int .i64 (J x), .int .u64 (S x), .int .i64 (J y), .int .u64 (S y)] w fun e w' => e = .returned (.tuple #[.bool (inF g (J x) (S x) (J y) (S y)).1, .bool (inF g (J x) (S x) (J y) (S y)).2]) ∧ Below w.heap.size w w' := by
  rw [← h.gbe]
  exact zzin_any g R w _ _ _ _ h.gc h.ok (h.msg hV hx) (h.msg hV hy)

theorem Grf.zzrel (h : Grf w n keep I J S X Y gb g R) (hV : Valid n I.L J S I.bL X Y) {x y : Nat} (hx : x < I.L) (hy : y < I.L) :
    Calls Try.prog 25 #[.pointer (some ⟨gb, 0, none⟩), .int .i64 (J x), .int .u64 (S x), .int .i64 (J y), .int .u64 (S y)] w fun e w' => e = .returned (.int .i64 (relF g (J x) (S x) (J y) (S y))) ∧ Below w.heap.size w w' := by
  rw [← h.gbe]
  exact zzrel_any g R w _ _ _ _ h.gc h.ok (h.msg hV hx) (h.msg hV hy)

end
end Go.Proofs.Qxb6605249a

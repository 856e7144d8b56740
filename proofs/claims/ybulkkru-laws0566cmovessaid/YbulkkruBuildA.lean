import Derived.Test.YbulkkruFill
import Derived.Deep.RegionHeld3
namespace Go.Proofs.Ybulkkru.net
open Go.RowKit
set_option linter.unusedVariables false

theorem info50 : (Yba.prog.info? 50).map (fun i => (i.zero, i.size, i.bytes)) = some (some (.agg #[.int .i32 0, .int .i64 0, .slice none 0 0, .slice none 0 0, .slice none 0 0, .bool false, .int .i32 0, .int .i32 0, .int .i64 0, .int .i64 0, .int .i64 0, .int .i64 0, .int .i64 0, .int .i64 0, .int .i64 0, .int .i64 0, .int .i64 0, .slice none 0 0, .slice none 0 0]), 19, 224) := by kernel_rfl
theorem info135 : (Yba.prog.info? 135).map (fun i => (i.zero, i.size, i.bytes)) = some (some (.agg #[.int .i32 0, .bool false, .int .i64 0]), 3, 16) := by kernel_rfl
theorem info32 : (Yba.prog.info? 32).map (fun i => (i.zero, i.size, i.bytes)) = some (some (.agg #[.int .i32 0, .int .i64 0, .int .i64 0, .slice none 0 0, .slice none 0 0, .int .i64 0, .int .i64 0, .int .i64 0, .int .i64 0, .int .i64 0, .int .i64 0, .int .i64 0, .int .i64 0]), 13, 136) := by kernel_rfl
theorem info21 : (Yba.prog.info? 21).map (fun i => (i.zero, i.size, i.bytes)) = some (some (.int .i32 0), 1, 4) := by kernel_rfl

theorem set_far {w : World} {a : Addr} {rb i : Nat} {v x : Value} (h : a.block ≠ rb) (hc : w.cell? a = some x) : (w.setCell ⟨rb, i, none⟩ v).cell? a = some x := by
  rw [← hc]
  apply World.cell?_setCell_other
  rintro rfl
  exact h rfl
theorem keepF {w : World} {a b c : Addr} {x y z v0 v1 v2 : Value} {rb i0 i1 i2 : Nat} (ha : a.block ≠ rb) (hb : b.block ≠ rb) (hc : c.block ≠ rb) (h1 : w.cell? a = some x) (h2 : w.cell? b = some y) (h3 : w.cell? c = some z) :
    (((w.setCell ⟨rb, i0, none⟩ v0).setCell ⟨rb, i1, none⟩ v1).setCell ⟨rb, i2, none⟩ v2).drew.cell? a = some x ∧ (((w.setCell ⟨rb, i0, none⟩ v0).setCell ⟨rb, i1, none⟩ v1).setCell ⟨rb, i2, none⟩ v2).drew.cell? b = some y ∧
    (((w.setCell ⟨rb, i0, none⟩ v0).setCell ⟨rb, i1, none⟩ v1).setCell ⟨rb, i2, none⟩ v2).drew.cell? c = some z :=
  ⟨set_far ha (set_far ha (set_far ha h1)), set_far hb (set_far hb (set_far hb h2)), set_far hc (set_far hc (set_far hc h3))⟩
theorem startF {w : World} {a b c : Addr} {x y z : Value} (h1 : w.cell? a = some x) (h2 : w.cell? b = some y) (h3 : w.cell? c = some z) : w.drew.cell? a = some x ∧ w.drew.cell? b = some y ∧ w.drew.cell? c = some z := ⟨h1, h2, h3⟩

theorem wrap_mod3 {n : Int} (h0 : 0 ≤ n) (h1 : n ≤ 255) : IntKind.i32.wrap (n.tmod 3) = n % 3 := by
  rw [Int.tmod_eq_emod_of_nonneg h0]
  simp [IntKind.wrap, IntKind.signed, IntKind.bits]
  omega
theorem wrap_i8 {n : Int} (h0 : -128 ≤ n) (h1 : n ≤ 127) : IntKind.i64.wrap n = n := by
  simp [IntKind.wrap, IntKind.signed, IntKind.bits]
  omega
theorem news_cells {w : World} {arr : Array Value} {t : TypeId} {news : List Value} (h : arr.toList = news) : ∀ j u, news[j]? = some u → (w.alloc (.cells arr t)).cell? ((⟨w.heap.size, 0, none⟩ : Addr).add j) = some u := by
  intro j u hj
  subst h
  rw [WideShapes.add_plain, Nat.zero_add, World.cell?_alloc_at _ _ _ _ rfl]
  simpa using hj
theorem news_cells2 {w : World} {o : Obj} {arr : Array Value} {t : TypeId} {news : List Value} (h : arr.toList = news) : ∀ j u, news[j]? = some u → ((w.alloc o).alloc (.cells arr t)).cell? ((⟨w.heap.size + 1, 0, none⟩ : Addr).add j) = some u := by
  intro j u hj
  have := news_cells (w := w.alloc o) (t := t) h j u hj
  simpa using this
theorem part_one (p : PartD) (rb : Nat) : ∀ u ∈ partCells p rb, u.oneCell' = true := fun u hu => List.all_eq_true.1 (show (partCells p rb).all (fun v => v.oneCell') = true from rfl) u hu
theorem brok_one (p : BrokD) (rb : Nat) : ∀ u ∈ brokCells p rb, u.oneCell' = true := fun u hu => List.all_eq_true.1 (show (brokCells p rb).all (fun v => v.oneCell') = true from rfl) u hu
theorem owns_of_block {w w' : World} {B e size g n cap : Nat} {xs : List Value} (h : w.ownsRow B e size (.slice (some ⟨g, 0, none⟩) n cap) n xs) (hb : w'.heap[g]? = w.heap[g]?) : w'.ownsRow B e size (.slice (some ⟨g, 0, none⟩) n cap) n xs := by
  obtain ⟨h1, h2⟩ := h
  refine ⟨h1, ?_⟩
  rcases h2 with h2 | ⟨g', c', cur, hv, hg, hh, r⟩
  · exact Or.inl h2
  · simp at hv
    obtain ⟨rfl, rfl⟩ := hv
    exact Or.inr ⟨g, cap, cur, rfl, hg, hb.trans hh, r⟩

structure PartsTo (w wr : World) (Pb k n : Nat) (D : List PartD) (xs : List Value) (rbs : List Nat) : Prop where
  len : rbs.length = k
  own : wr.ownsRow w.heap.size 50 19 (.slice (some ⟨Pb, 0, none⟩) k (n + 1)) k xs
  rows : RowsOf 19 xs k (fun i => partCells (outPart (partOf D i)) (rbs.getD i 0))
  racks : ∀ i, i < k → Pb < rbs.getD i 0 ∧ RacksAt wr (rbs.getD i 0) (outPart (partOf D i)).2.2
  below : Below w.heap.size w wr

/-- Behind the racks' loop the partitions' row still stands. -/
theorem PartsTo.ownLater {w wo w1 wr : World} {k n rb : Nat} {D : List PartD} {xs : List Value} {rbs : List Nat} {o1 : Obj} (hP : PartsTo w wo w.heap.size k n D xs rbs) (hg : (wo.alloc o1).grownBy w1 none) (hb : Below rb w1 wr) (hrb : w.heap.size < rb) :
    wr.ownsRow w.heap.size 50 19 (.slice (some ⟨w.heap.size, 0, none⟩) k (n + 1)) k xs := by
  have hlt : w.heap.size < wo.heap.size := (hP.own.lt _ rfl).2
  exact owns_of_block hP.own ((hb.block _ hrb).trans ((hg.block _ (by simp; omega) (by simp)).trans (Below.heap_alloc _ _ _ hlt)))

theorem RacksAt.kept {w w' : World} {rb : Nat} {rs : List RackD} (h : RacksAt w rb rs) (hb : w'.heap[rb]? = w.heap[rb]?) : RacksAt w' rb rs :=
  fun k hk => ⟨(World.cell?_of_block (w := w) (a := ⟨rb, k * 3, none⟩) hb).trans (h k hk).1, (World.cell?_of_block (w := w) (a := ⟨rb, k * 3 + 1, none⟩) hb).trans (h k hk).2.1, (World.cell?_of_block (w := w) (a := ⟨rb, k * 3 + 2, none⟩) hb).trans (h k hk).2.2⟩

theorem getD_left (l : List Nat) (b i : Nat) (h : i < l.length) : (l ++ [b]).getD i 0 = l.getD i 0 := by simp [List.getD, List.getElem?_append_left h]
theorem getD_last (l : List Nat) (b : Nat) : (l ++ [b]).getD l.length 0 = b := by simp [List.getD]

theorem PartsTo.step {w wo w1 wr w3 : World} {k n : Nat} {D : List PartD} {xs : List Value} {rbs : List Nat} {o1 o2 : Obj} {F : List RackD} {t sh : Int}
    (hP : PartsTo w wo w.heap.size k n D xs rbs) (hD : partOf D k = (t, sh, F)) (hg1 : (wo.alloc o1).grownBy w1 none) (hfl : Filling w1 wr (wo.heap.size + 1) F.length F.length (F.map outRack))
    (hown3 : w3.ownsRow w.heap.size 50 19 (.slice (some ⟨w.heap.size, 0, none⟩) (k + 1) (n + 1)) (k + 1) (xs ++ partCells (outPart (partOf D k)) (wo.heap.size + 1)))
    (hg3 : (wr.alloc o2).grownBy w3 (some w.heap.size)) :
    PartsTo w w3 w.heap.size (k + 1) n D (xs ++ partCells (outPart (partOf D k)) (wo.heap.size + 1)) (rbs ++ [wo.heap.size + 1]) := by
  have hs := hP.below.size
  have hs1 : wo.heap.size + 1 ≤ w1.heap.size := by have := hg1.size; simpa using this
  have hs2 := hfl.below.size
  have hl := hP.len
  have hb1 : Below wo.heap.size wo w1 := ((Below.refl _ _).alloc (Nat.le_refl _) _).grown hg1 (by simp) (fun k h => by cases h)
  have hb2 : Below wo.heap.size wo wr := hb1.trans (hfl.below.mono (by omega))
  have hbr : Below w.heap.size w wr := hP.below.trans (hb2.mono hs)
  refine ⟨by simp [hl], hown3, hP.rows.snoc ?_ ?_ rfl, ?_, (hbr.alloc hbr.size _).grown hg3 (by simp; omega) (fun k h => by cases h; exact Nat.le_refl _)⟩
  · intro i hi
    show partCells _ ((rbs ++ [wo.heap.size + 1]).getD i 0) = partCells _ (rbs.getD i 0)
    rw [getD_left _ _ _ (by omega)]
  · show partCells _ ((rbs ++ [wo.heap.size + 1]).getD k 0) = _
    rw [← hl, getD_last]
  · intro i hi
    by_cases e : i = k
    · subst e
      rw [← hl, getD_last, hl, hD]
      refine ⟨by omega, ?_⟩
      have hr : RacksAt wr (wo.heap.size + 1) (F.map outRack) := by
        intro q hq
        exact hfl.done q (by simpa using hq)
      by_cases h0 : F.length = 0
      · intro q hq
        exact absurd hq (by simp [outPart, h0])
      · have hlt : wo.heap.size + 1 < wr.heap.size := World.block_lt_of_cell? _ _ (hr 0 (by simp; omega)).1
        exact hr.kept ((hg3.block _ (by simp; omega) (by simp; omega)).trans (Below.heap_alloc _ _ _ hlt))
    · rw [getD_left _ _ _ (by omega)]
      obtain ⟨r1, r2⟩ := hP.racks i (by omega)
      refine ⟨r1, ?_⟩
      have r3 := r2.keeps hb2
      generalize rbs.getD i 0 = rb' at r1 r3
      by_cases h0 : (outPart (partOf D i)).2.2.length = 0
      · intro q hq
        exact absurd hq (by omega)
      · have hlt : rb' < wr.heap.size := World.block_lt_of_cell? _ _ (r3 0 (by omega)).1
        exact r3.kept ((hg3.block _ (by simp; omega) (by simp; omega)).trans (Below.heap_alloc _ _ _ hlt))

/-- The partitions that the build leaves. -/
def outParts (D : List PartD) : List PartD := match D with | [] => [(0, 0, [(0, 1)])] | _ => D.map outPart

theorem outParts_cons {D : List PartD} (h : 0 < D.length) : outParts D = D.map outPart := by
  cases D with
  | nil => simp at h
  | cons a l => rfl
theorem outParts_nil {D : List PartD} (h : D.length = 0) : outParts D = [(0, 0, [(0, 1)])] := by
  obtain rfl : D = [] := List.eq_nil_of_length_eq_zero h
  rfl
theorem partOf_map {D : List PartD} {i : Nat} (h : i < D.length) : partOf (D.map outPart) i = outPart (partOf D i) := by
  simp [partOf, List.getD, h]

/-- The partitions in memory, done. -/
def PartsDone (w : World) (Pb : Nat) (P : List PartD) : Prop := ∀ i, i < P.length → PartAt w Pb (i * 19) (partOf P i)

theorem PartsDone.keeps {w w' : World} (hb : Below w.heap.size w w') {Pb : Nat} {P : List PartD} (h : PartsDone w Pb P) : PartsDone w' Pb P := fun i hi => (h i hi).keeps hb

theorem partAt_of_cells {w : World} {Pb o rb : Nat} {p : PartD} (h : ∀ c, c < 19 → w.cell? ⟨Pb, o + c, none⟩ = (partCells p rb)[c]?) (hr : RacksAt w rb p.2.2) : PartAt w Pb o p :=
  ⟨h 0 (by omega), h 16 (by omega), rb, _, h 17 (by omega), hr⟩

theorem PartsTo.done {w wr : World} {Pb n : Nat} {D : List PartD} {xs : List Value} {rbs : List Nat} (h : PartsTo w wr Pb D.length n D xs rbs) : PartsDone wr Pb (D.map outPart) := by
  intro i hi
  have hi' : i < D.length := by simpa using hi
  rw [partOf_map hi']
  refine partAt_of_cells (rb := rbs.getD i 0) (fun c hc => ?_) (h.racks i hi').2
  rw [h.own.cellAt (i * 19 + c) (by omega)]
  exact h.rows.2 i hi' c hc

structure BroksTo (w wr : World) (Rb k m np : Nat) (E : List BrokD) (ys : List Value) (pbs : List Nat) : Prop where
  len : pbs.length = k
  own : wr.ownsRow w.heap.size 32 13 (.slice (some ⟨Rb, 0, none⟩) k (m + 1)) k ys
  rows : RowsOf 13 ys k (fun i => brokCells (outBrok np (brokOf E i)) (pbs.getD i 0))
  parts : ∀ i, i < k → Rb < pbs.getD i 0 ∧ ∀ q, q < (outBrok np (brokOf E i)).2.length → wr.cell? ⟨pbs.getD i 0, q, none⟩ = some (.int .i32 ((outBrok np (brokOf E i)).2.getD q 0))
  below : Below w.heap.size w wr

theorem BroksTo.ownLater {w wo w1 wr : World} {k m np rb : Nat} {E : List BrokD} {ys : List Value} {pbs : List Nat} {o1 : Obj} (hP : BroksTo w wo w.heap.size k m np E ys pbs) (hg : (wo.alloc o1).grownBy w1 none) (hb : Below rb w1 wr) (hrb : w.heap.size < rb) :
    wr.ownsRow w.heap.size 32 13 (.slice (some ⟨w.heap.size, 0, none⟩) k (m + 1)) k ys := by
  have hlt : w.heap.size < wo.heap.size := (hP.own.lt _ rfl).2
  exact owns_of_block hP.own ((hb.block _ hrb).trans ((hg.block _ (by simp; omega) (by simp)).trans (Below.heap_alloc _ _ _ hlt)))

theorem BroksTo.step {w wo w1 wr w3 : World} {k m np : Nat} {E : List BrokD} {ys : List Value} {pbs : List Nat} {o1 o2 : Obj} {L : List Int} {t : Int}
    (hP : BroksTo w wo w.heap.size k m np E ys pbs) (hE : brokOf E k = (t, L)) (hg1 : (wo.alloc o1).grownBy w1 none) (hfl : Filling1 w1 wr (wo.heap.size + 1) L.length L.length (L.map fun x => x % (np : Int)))
    (hown3 : w3.ownsRow w.heap.size 32 13 (.slice (some ⟨w.heap.size, 0, none⟩) (k + 1) (m + 1)) (k + 1) (ys ++ brokCells (outBrok np (brokOf E k)) (wo.heap.size + 1)))
    (hg3 : (wr.alloc o2).grownBy w3 (some w.heap.size)) :
    BroksTo w w3 w.heap.size (k + 1) m np E (ys ++ brokCells (outBrok np (brokOf E k)) (wo.heap.size + 1)) (pbs ++ [wo.heap.size + 1]) := by
  have hs := hP.below.size
  have hs1 : wo.heap.size + 1 ≤ w1.heap.size := by have := hg1.size; simpa using this
  have hs2 := hfl.below.size
  have hl := hP.len
  have hb1 : Below wo.heap.size wo w1 := ((Below.refl _ _).alloc (Nat.le_refl _) _).grown hg1 (by simp) (fun k h => by cases h)
  have hb2 : Below wo.heap.size wo wr := hb1.trans (hfl.below.mono (by omega))
  have hbr : Below w.heap.size w wr := hP.below.trans (hb2.mono hs)
  have far : ∀ (a : Addr) (v : Value), w.heap.size < a.block → wr.cell? a = some v → w3.cell? a = some v := by
    intro a v ha hc
    have hlt := World.block_lt_of_cell? _ _ hc
    exact (World.cell?_of_block (w := wr) ((hg3.block _ (by simp; omega) (fun e => by have := Option.some.inj e; omega)).trans (Below.heap_alloc _ _ _ hlt))).trans hc
  refine ⟨by simp [hl], hown3, hP.rows.snoc ?_ ?_ rfl, ?_, (hbr.alloc hbr.size _).grown hg3 (by simp; omega) (fun k h => by cases h; exact Nat.le_refl _)⟩
  · intro i hi
    show brokCells _ ((pbs ++ [wo.heap.size + 1]).getD i 0) = brokCells _ (pbs.getD i 0)
    rw [getD_left _ _ _ (by omega)]
  · show brokCells _ ((pbs ++ [wo.heap.size + 1]).getD k 0) = _
    rw [← hl, getD_last]
  · intro i hi
    by_cases e : i = k
    · subst e
      rw [← hl, getD_last, hl, hE]
      refine ⟨by omega, fun q hq => far _ _ (by show w.heap.size < wo.heap.size + 1; omega) (hfl.done q (by simpa [outBrok] using hq))⟩
    · rw [getD_left _ _ _ (by omega)]
      obtain ⟨r1, r2⟩ := hP.parts i (by omega)
      exact ⟨r1, fun q hq => far _ _ r1 (cell_keeps hb2 (r2 q hq))⟩

/-- The brokers that the build leaves. -/
def outBroks (np : Nat) (E : List BrokD) : List BrokD := match E with | [] => [(0, [0])] | _ => E.map (outBrok np)

theorem outBroks_cons {np : Nat} {E : List BrokD} (h : 0 < E.length) : outBroks np E = E.map (outBrok np) := by
  cases E with
  | nil => simp at h
  | cons a l => rfl
theorem outBroks_nil {np : Nat} {E : List BrokD} (h : E.length = 0) : outBroks np E = [(0, [0])] := by
  obtain rfl : E = [] := List.eq_nil_of_length_eq_zero h
  rfl
theorem brokOf_map {np : Nat} {E : List BrokD} {i : Nat} (h : i < E.length) : brokOf (E.map (outBrok np)) i = outBrok np (brokOf E i) := by
  simp [brokOf, List.getD, h]

def BroksDone (w : World) (Rb : Nat) (R : List BrokD) : Prop := ∀ i, i < R.length → BrokAt w Rb (i * 13) (brokOf R i)
theorem BroksDone.keeps {w w' : World} (hb : Below w.heap.size w w') {Rb : Nat} {R : List BrokD} (h : BroksDone w Rb R) : BroksDone w' Rb R := fun i hi => (h i hi).keeps hb

theorem brokAt_of_cells {w : World} {Rb o pb : Nat} {d : BrokD} (h : ∀ c, c < 13 → w.cell? ⟨Rb, o + c, none⟩ = (brokCells d pb)[c]?) (hr : ∀ q, q < d.2.length → w.cell? ⟨pb, q, none⟩ = some (.int .i32 (d.2.getD q 0))) : BrokAt w Rb o d :=
  ⟨h 0 (by omega), ⟨h 5 (by omega), h 6 (by omega), h 7 (by omega)⟩, pb, _, h 3 (by omega), hr⟩

theorem BroksTo.done {w wr : World} {Rb m np : Nat} {E : List BrokD} {ys : List Value} {pbs : List Nat} (h : BroksTo w wr Rb E.length m np E ys pbs) : BroksDone wr Rb (E.map (outBrok np)) := by
  intro i hi
  have hi' : i < E.length := by simpa using hi
  rw [brokOf_map hi']
  refine brokAt_of_cells (pb := pbs.getD i 0) (fun c hc => ?_) (h.parts i hi').2
  rw [h.own.cellAt (i * 13 + c) (by omega)]
  exact h.rows.2 i hi' c hc

theorem broksDone_nil {w wr w3 : World} {np : Nat} {E : List BrokD} {ys : List Value} {pbs : List Nat} {o : Obj} (h0 : E.length = 0) (hP : BroksTo w wr w.heap.size E.length E.length np E ys pbs)
    (hown3 : w3.ownsRow w.heap.size 32 13 (.slice (some ⟨w.heap.size, 0, none⟩) (E.length + 1) (E.length + 1)) (E.length + 1) (ys ++ brokCells (0, [0]) wr.heap.size))
    (hg : ((wr.alloc (.cells #[.int .i32 0] 21)).alloc o).grownBy w3 (some w.heap.size)) :
    BroksDone w3 w.heap.size (outBroks np E) ∧ Below w.heap.size w w3 := by
  have hs := hP.below.size
  have hlt : w.heap.size < wr.heap.size := (hP.own.lt _ rfl).2
  have hx : ys = [] := List.eq_nil_of_length_eq_zero (by rw [hP.rows.1, h0])
  refine ⟨?_, ((hP.below.alloc hs _).alloc (by simp; omega) _).grown hg (by simp; omega) (fun k h => by cases h; exact Nat.le_refl _)⟩
  rw [outBroks_nil h0]
  intro i hi
  obtain rfl : i = 0 := by simpa using hi
  refine brokAt_of_cells (pb := wr.heap.size) (fun c hc => ?_) ?_
  · rw [hown3.cellAt (0 * 13 + c) (by omega), hx]
    simp [brokOf]
  · have hb : w3.heap[wr.heap.size]? = some (.cells #[.int .i32 0] 21 (0, 0)) := by
      rw [hg.block _ (by simp; omega) (by simp; omega), Below.heap_alloc _ _ _ (by simp)]
      exact heap_alloc_new _ _
    intro q hq
    obtain rfl : q = 0 := by simpa [brokOf] using hq
    simp [World.cell?, hb, brokOf]

theorem outParts_len (D : List PartD) : 0 < (outParts D).length ∧ (outParts D).length ≤ D.length + 1 := by
  cases D with
  | nil => simp [outParts]
  | cons a l => simp [outParts]
theorem outBroks_len (np : Nat) (E : List BrokD) : 0 < (outBroks np E).length ∧ (outBroks np E).length ≤ E.length + 1 := by
  cases E with
  | nil => simp [outBroks]
  | cons a l => simp [outBroks]
theorem emod_np {x : Int} {np : Nat} (h0 : 0 ≤ x) (h1 : x ≤ 255) (hn : 0 < np) : 0 ≤ x % (np : Int) ∧ x % (np : Int) ≤ 255 := by
  refine ⟨Int.emod_nonneg _ (by omega), ?_⟩
  obtain ⟨n, rfl⟩ := Int.eq_ofNat_of_zero_le h0
  have h := Nat.mod_le n np
  have e : (n : Int) % (np : Int) = ((n % np : Nat) : Int) := by norm_cast
  rw [e]
  omega

theorem outParts_racks {D : List PartD} (h : ∀ i, i < D.length → (partOf D i).2.2.length ≤ 300) : ∀ i, i < (outParts D).length → (partOf (outParts D) i).2.2.length ≤ 1000 := by
  intro i hi
  by_cases h0 : D.length = 0
  · rw [outParts_nil h0] at hi ⊢
    obtain rfl : i = 0 := by simpa using hi
    simp [partOf]
  · rw [outParts_cons (by omega)] at hi ⊢
    have hi' : i < D.length := by simpa using hi
    rw [partOf_map hi']
    have := h i hi'
    simp [outPart]
    omega
theorem outBroks_held {np : Nat} {E : List BrokD} (h : ∀ i, i < E.length → (brokOf E i).2.length ≤ 300) : ∀ i, i < (outBroks np E).length → (brokOf (outBroks np E) i).2.length ≤ 1000 := by
  intro i hi
  by_cases h0 : E.length = 0
  · rw [outBroks_nil h0] at hi ⊢
    obtain rfl : i = 0 := by simpa using hi
    simp [brokOf]
  · rw [outBroks_cons (by omega)] at hi ⊢
    have hi' : i < E.length := by simpa using hi
    rw [brokOf_map hi']
    have := h i hi'
    simp [outBrok]
    omega
theorem outBroks_refs {w : World} {bo : Option Addr} {np : Nat} {E : List BrokD} (hnp : 0 < np) (h : BroksIn w bo E) : ∀ i, i < (outBroks np E).length → ∀ k, k < (brokOf (outBroks np E) i).2.length → ∃ j : Nat, (brokOf (outBroks np E) i).2.getD k 0 = j ∧ j < np := by
  intro i hi k hk
  by_cases h0 : E.length = 0
  · rw [outBroks_nil h0] at hi hk ⊢
    obtain rfl : i = 0 := by simpa using hi
    obtain rfl : k = 0 := by simpa [brokOf] using hk
    exact ⟨0, by simp [brokOf], hnp⟩
  · rw [outBroks_cons (by omega)] at hi hk ⊢
    have hi' : i < E.length := by simpa using hi
    rw [brokOf_map hi'] at hk ⊢
    have hk' : k < (brokOf E i).2.length := by simpa [outBrok] using hk
    obtain ⟨b, off, _, hc⟩ := h (by omega)
    obtain ⟨_, _, ro, rcap, _, hF⟩ := hc i hi'
    obtain ⟨fb, fo, _, hf⟩ := hF (by omega)
    obtain ⟨_, f0, f1⟩ := hf k hk'
    have e : (outBrok np (brokOf E i)).2.getD k 0 = (brokOf E i).2.getD k 0 % (np : Int) := by simp [outBrok, List.getD, hk']
    rw [e]
    have h1 := Int.emod_nonneg ((brokOf E i).2.getD k 0) (b := (np : Int)) (by omega)
    have h2 := Int.emod_lt_of_pos ((brokOf E i).2.getD k 0) (b := (np : Int)) (by omega)
    exact ⟨((brokOf E i).2.getD k 0 % (np : Int)).toNat, by omega, by omega⟩

theorem partsDone_nil {w wr w3 : World} {D : List PartD} {xs : List Value} {rbs : List Nat} {o : Obj} (h0 : D.length = 0) (hP : PartsTo w wr w.heap.size D.length D.length D xs rbs)
    (hown3 : w3.ownsRow w.heap.size 50 19 (.slice (some ⟨w.heap.size, 0, none⟩) (D.length + 1) (D.length + 1)) (D.length + 1) (xs ++ partCells (0, 0, [(0, 1)]) wr.heap.size))
    (hg : ((wr.alloc (.cells #[.int .i32 0, .bool false, .int .i64 1] 135)).alloc o).grownBy w3 (some w.heap.size)) :
    PartsDone w3 w.heap.size (outParts D) ∧ Below w.heap.size w w3 := by
  have hs := hP.below.size
  have hlt : w.heap.size < wr.heap.size := (hP.own.lt _ rfl).2
  have hx : xs = [] := List.eq_nil_of_length_eq_zero (by rw [hP.rows.1, h0])
  refine ⟨?_, ((hP.below.alloc hs _).alloc (by simp; omega) _).grown hg (by simp; omega) (fun k h => by cases h; exact Nat.le_refl _)⟩
  rw [outParts_nil h0]
  intro i hi
  obtain rfl : i = 0 := by simpa using hi
  refine partAt_of_cells (rb := wr.heap.size) (fun c hc => ?_) ?_
  · rw [hown3.cellAt (0 * 19 + c) (by omega), hx]
    simp [partOf]
  · have hb : w3.heap[wr.heap.size]? = some (.cells #[.int .i32 0, .bool false, .int .i64 1] 135 (0, 0)) := by
      rw [hg.block _ (by simp; omega) (by simp; omega), Below.heap_alloc _ _ _ (by simp)]
      exact heap_alloc_new _ _
    intro q hq
    obtain rfl : q = 0 := by simpa [partOf] using hq
    refine ⟨?_, ?_, ?_⟩ <;> simp [World.cell?, hb, partOf]

/-- What the build leaves: a pointer to the network in memory; of what was there nothing has turned. -/
def Built (D : List PartD) (E : List BrokD) (um : Bool) (w : World) (e : Ending) (w' : World) : Prop :=
  ∃ N Pb pcap Rb rcap : Nat, e = .returned (.pointer (some ⟨N, 0, none⟩)) ∧ NetAt w' N Pb pcap Rb rcap (outParts D) (outBroks (outParts D).length E) (if um then 1 else 0) ∧ Below w.heap.size w w'

theorem built_done {D : List PartD} {E : List BrokD} {um : Bool} {bo : Option Addr} {w wc : World} {Rb np : Nat} {cs : Array Value} (hE : BroksIn w bo E) (hDl : D.length ≤ 300) (hEl : E.length ≤ 300)
    (hDr : ∀ i, i < D.length → (partOf D i).2.2.length ≤ 300) (hEr : ∀ i, i < E.length → (brokOf E i).2.length ≤ 300) (hnp : np = (outParts D).length)
    (hP : PartsDone wc w.heap.size (outParts D)) (hB : BroksDone wc Rb (outBroks np E)) (hbel : Below w.heap.size w wc)
    (c0 : cs[0]? = some (.slice (some ⟨w.heap.size, 0, none⟩) np (D.length + 1))) (c1 : cs[1]? = some (.slice (some ⟨Rb, 0, none⟩) (outBroks np E).length (E.length + 1))) (c20 : cs[20]? = some (.int .i64 (if um then 1 else 0))) :
    Built D E um w (.returned (.pointer (some ⟨wc.heap.size, 0, none⟩))) (wc.alloc (.cells cs 73)) := by
  have hb : Below wc.heap.size wc (wc.alloc (.cells cs 73)) := (Below.refl _ _).alloc (Nat.le_refl _) _
  subst hnp
  have l1 := outParts_len D
  have l2 := outBroks_len (outParts D).length E
  have hc : ∀ i, (wc.alloc (.cells cs 73)).cell? ⟨wc.heap.size, i, none⟩ = cs[i]? := fun i => World.cell?_alloc_at _ _ _ _ rfl
  exact ⟨wc.heap.size, w.heap.size, D.length + 1, Rb, E.length + 1, rfl, ⟨(hc 0).trans c0, (hc 1).trans c1, (hc 20).trans c20, hP.keeps hb, hB.keeps hb, by omega, by omega, outParts_racks hDr, outBroks_held hEr, outBroks_refs l1.1 hE⟩,
    hbel.alloc hbel.size _⟩

end Go.Proofs.Ybulkkru.net

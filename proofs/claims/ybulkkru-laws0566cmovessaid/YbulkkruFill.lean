import Derived.Test.YbulkkruMender
namespace Go.Proofs.Ybulkkru.net
open Go.RowKit
set_option linter.unusedVariables false

/-! ### What came in -/
/-- The racks of a partition that came in. -/
def FlowIn (w : World) (ro : Option Addr) (F : List RackD) : Prop :=
  0 < F.length → ∃ b off, ro = some ⟨b, off, none⟩ ∧ ∀ j, j < F.length → w.cell? ⟨b, off + j * 2, none⟩ = some (.int .u8 (F.getD j (0, 0)).1) ∧ w.cell? ⟨b, off + j * 2 + 1, none⟩ = some (.int .i8 (F.getD j (0, 0)).2) ∧
    (0 ≤ (F.getD j (0, 0)).1 ∧ (F.getD j (0, 0)).1 ≤ 255) ∧ (-128 ≤ (F.getD j (0, 0)).2 ∧ (F.getD j (0, 0)).2 ≤ 127)
/-- The partitions that came in. -/
def PartsIn (w : World) (ao : Option Addr) (D : List PartD) : Prop :=
  0 < D.length → ∃ b off, ao = some ⟨b, off, none⟩ ∧ ∀ i, i < D.length → w.cell? ⟨b, off + i * 3, none⟩ = some (.int .u8 (partOf D i).1) ∧ w.cell? ⟨b, off + i * 3 + 1, none⟩ = some (.int .i8 (partOf D i).2.1) ∧
    (0 ≤ (partOf D i).1 ∧ (partOf D i).1 ≤ 255) ∧ (-128 ≤ (partOf D i).2.1 ∧ (partOf D i).2.1 ≤ 127) ∧
    ∃ ro rcap, w.cell? ⟨b, off + i * 3 + 2, none⟩ = some (.slice ro (partOf D i).2.2.length rcap) ∧ FlowIn w ro (partOf D i).2.2
/-- A row of bytes that came in. -/
def BytesIn (w : World) (ro : Option Addr) (L : List Int) : Prop :=
  0 < L.length → ∃ b off, ro = some ⟨b, off, none⟩ ∧ ∀ j, j < L.length → w.cell? ⟨b, off + j, none⟩ = some (.int .u8 (L.getD j 0)) ∧ 0 ≤ L.getD j 0 ∧ L.getD j 0 ≤ 255
/-- The brokers that came in. -/
def BroksIn (w : World) (ao : Option Addr) (E : List BrokD) : Prop :=
  0 < E.length → ∃ b off, ao = some ⟨b, off, none⟩ ∧ ∀ i, i < E.length → w.cell? ⟨b, off + i * 2, none⟩ = some (.int .u8 (brokOf E i).1) ∧ (0 ≤ (brokOf E i).1 ∧ (brokOf E i).1 ≤ 255) ∧
    ∃ ro rcap, w.cell? ⟨b, off + i * 2 + 1, none⟩ = some (.slice ro (brokOf E i).2.length rcap) ∧ BytesIn w ro (brokOf E i).2

/-! ### What the build makes of it -/
def outRack (x : RackD) : RackD := (x.1 % 3, x.2)
def outPart (d : PartD) : PartD := (d.1 % 3, d.2.1, d.2.2.map outRack)
def outBrok (np : Nat) (d : BrokD) : BrokD := (d.1 % 3, d.2.map fun x => x % (np : Int))

/-! ### A row that is being filled, three cells an element -/
structure Filling (w1 wr : World) (rb len j : Nat) (rs : List RackD) : Prop where
  there : ∀ x, x < len * 3 → ∃ v, wr.cell? ⟨rb, x, none⟩ = some v
  free : ∀ x, wr.frozen? ⟨rb, x, none⟩ = false
  done : ∀ q, q < j → wr.cell? ⟨rb, q * 3, none⟩ = some (.int .i32 (rs.getD q (0, 0)).1) ∧ wr.cell? ⟨rb, q * 3 + 1, none⟩ = some (.bool false) ∧ wr.cell? ⟨rb, q * 3 + 2, none⟩ = some (.int .i64 (rs.getD q (0, 0)).2)
  below : Below rb w1 wr

theorem cell_set_ne {w : World} {b i j : Nat} {v : Value} (h : i ≠ j) : (w.setCell ⟨b, i, none⟩ v).cell? ⟨b, j, none⟩ = w.cell? ⟨b, j, none⟩ := by
  apply World.cell?_setCell_other
  intro e
  injection e with _ e
  exact h e
theorem cell_set_eq {w : World} {a : Addr} {u v : Value} (h : w.cell? a = some u) : (w.setCell a v).cell? a = some v := by
  apply World.cell?_setCell_same
  exact h
theorem there_set {w : World} {b i x : Nat} {v u : Value} (h : w.cell? ⟨b, x, none⟩ = some u) : ∃ u', (w.setCell ⟨b, i, none⟩ v).cell? ⟨b, x, none⟩ = some u' := by
  by_cases e : i = x
  · subst e; exact ⟨v, cell_set_eq h⟩
  · exact ⟨u, by rw [cell_set_ne e]; exact h⟩

theorem Filling.step {w1 wr : World} {rb len j : Nat} {rs : List RackD} (h : Filling w1 wr rb len j rs) (hj : j < len) {r s : Int} (hr : rs.getD j (0, 0) = (r, s)) :
    Filling w1 (((wr.setCell ⟨rb, j * 3, none⟩ (.int .i32 r)).setCell ⟨rb, j * 3 + 1, none⟩ (.bool false)).setCell ⟨rb, j * 3 + 2, none⟩ (.int .i64 s)) rb len (j + 1) rs := by
  obtain ⟨v0, h0⟩ := h.there (j * 3) (by omega)
  obtain ⟨v1, h1⟩ := h.there (j * 3 + 1) (by omega)
  obtain ⟨v2, h2⟩ := h.there (j * 3 + 2) (by omega)
  refine ⟨?_, ?_, ?_, ?_⟩
  · intro x hx
    obtain ⟨u, hu⟩ := h.there x hx
    obtain ⟨u1, hu1⟩ := there_set (i := j * 3) (v := .int .i32 r) hu
    obtain ⟨u2, hu2⟩ := there_set (i := j * 3 + 1) (v := .bool false) hu1
    exact there_set hu2
  · intro x
    rw [World.frozen?_setCell, World.frozen?_setCell, World.frozen?_setCell]
    exact h.free x
  · intro q hq
    by_cases e : q = j
    · subst e
      rw [hr]
      refine ⟨?_, ?_, ?_⟩
      · rw [cell_set_ne (by omega), cell_set_ne (by omega)]; exact cell_set_eq h0
      · rw [cell_set_ne (by omega)]; exact cell_set_eq (u := v1) (by rw [cell_set_ne (by omega)]; exact h1)
      · exact cell_set_eq (u := v2) (by rw [cell_set_ne (by omega), cell_set_ne (by omega)]; exact h2)
    · have hd := h.done q (by omega)
      refine ⟨?_, ?_, ?_⟩
      · rw [cell_set_ne (by omega), cell_set_ne (by omega), cell_set_ne (by omega)]; exact hd.1
      · rw [cell_set_ne (by omega), cell_set_ne (by omega), cell_set_ne (by omega)]; exact hd.2.1
      · rw [cell_set_ne (by omega), cell_set_ne (by omega), cell_set_ne (by omega)]; exact hd.2.2
  · exact ((h.below.setCell (Nat.le_refl _) _).setCell (Nat.le_refl _) _).setCell (Nat.le_refl _) _

theorem Filling.drew {w1 wr : World} {rb len j : Nat} {rs : List RackD} (h : Filling w1 wr rb len j rs) : Filling w1 wr.drew rb len j rs :=
  ⟨h.there, h.free, h.done, h.below.drew⟩

/-- A row that 'make' has just laid. -/
theorem Filling.made {w1 : World} {B rb len : Nat} {xs : List Value} {rs : List RackD} (h : w1.ownsRow B 135 3 (.slice (some ⟨rb, 0, none⟩) len len) len xs) : Filling w1 w1 rb len 0 rs := by
  refine ⟨fun x hx => ?_, fun x => h.frozenAt x, fun q hq => absurd hq (by omega), Below.refl _ _⟩
  rw [h.cellAt x hx]
  have := h.1
  exact ⟨_, List.getElem?_eq_getElem (by omega)⟩

theorem Filling.racks {w1 wr : World} {rb : Nat} {rs : List RackD} (h : Filling w1 wr rb rs.length rs.length rs) : RacksAt wr rb rs := h.done

/-- The same, one cell an element. -/
structure Filling1 (w1 wr : World) (rb len j : Nat) (rs : List Int) : Prop where
  there : ∀ x, x < len → ∃ v, wr.cell? ⟨rb, x, none⟩ = some v
  free : ∀ x, wr.frozen? ⟨rb, x, none⟩ = false
  done : ∀ q, q < j → wr.cell? ⟨rb, q, none⟩ = some (.int .i32 (rs.getD q 0))
  below : Below rb w1 wr

theorem Filling1.step {w1 wr : World} {rb len j : Nat} {rs : List Int} (h : Filling1 w1 wr rb len j rs) (hj : j < len) {r : Int} (hr : rs.getD j 0 = r) :
    Filling1 w1 (wr.setCell ⟨rb, j, none⟩ (.int .i32 r)) rb len (j + 1) rs := by
  obtain ⟨v0, h0⟩ := h.there j hj
  refine ⟨?_, ?_, ?_, ?_⟩
  · intro x hx
    obtain ⟨u, hu⟩ := h.there x hx
    exact there_set hu
  · intro x
    rw [World.frozen?_setCell]
    exact h.free x
  · intro q hq
    by_cases e : q = j
    · subst e
      rw [hr]
      exact cell_set_eq h0
    · rw [cell_set_ne (by omega)]; exact h.done q (by omega)
  · exact h.below.setCell (Nat.le_refl _) _

theorem Filling1.made {w1 : World} {B rb len e : Nat} {xs : List Value} {rs : List Int} (h : w1.ownsRow B e 1 (.slice (some ⟨rb, 0, none⟩) len len) len xs) : Filling1 w1 w1 rb len 0 rs := by
  refine ⟨fun x hx => ?_, fun x => h.frozenAt x, fun q hq => absurd hq (by omega), Below.refl _ _⟩
  rw [h.cellAt x (by omega)]
  have := h.1
  exact ⟨_, List.getElem?_eq_getElem (by omega)⟩

/-! ### The cells of a partition, of a broker -/
def partCells (p : PartD) (rb : Nat) : List Value :=
  [.int .i32 p.1, .int .i64 0, .slice none 0 0, .slice none 0 0, .slice none 0 0, .bool false, .int .i32 0, .int .i32 0, .int .i64 0, .int .i64 0, .int .i64 0, .int .i64 0, .int .i64 0, .int .i64 0, .int .i64 0, .int .i64 0,
   .int .i64 p.2.1, .slice (some ⟨rb, 0, none⟩) p.2.2.length p.2.2.length, .slice none 0 0]
def brokCells (d : BrokD) (pb : Nat) : List Value :=
  [.int .i32 d.1, .int .i64 0, .int .i64 0, .slice (some ⟨pb, 0, none⟩) d.2.length d.2.length, .slice none 0 0, .int .i64 0, .int .i64 0, .int .i64 0, .int .i64 0, .int .i64 0, .int .i64 0, .int .i64 0, .int .i64 0]

/-- 'xs' holds k rows of 'sz' cells, row i being 'f i'. -/
def RowsOf (sz : Nat) (xs : List Value) (k : Nat) (f : Nat → List Value) : Prop := xs.length = k * sz ∧ ∀ i, i < k → ∀ c, c < sz → xs[i * sz + c]? = (f i)[c]?

theorem RowsOf.nil (sz : Nat) (f : Nat → List Value) : RowsOf sz [] 0 f := ⟨by simp, fun i hi => absurd hi (by omega)⟩
theorem RowsOf.snoc {sz : Nat} {xs : List Value} {k : Nat} {f g : Nat → List Value} {news : List Value} (h : RowsOf sz xs k f) (hg : ∀ i, i < k → g i = f i) (hk : g k = news) (hn : news.length = sz) : RowsOf sz (xs ++ news) (k + 1) g := by
  obtain ⟨h1, h2⟩ := h
  refine ⟨by simp [h1, hn, Nat.add_mul], fun i hi c hc => ?_⟩
  by_cases e : i = k
  · subst e
    rw [List.getElem?_append_right (by omega), h1, show i * sz + c - i * sz = c by omega, hk]
  · have hlt : i * sz + c < k * sz := by
      have : (i + 1) * sz ≤ k * sz := Nat.mul_le_mul_right sz (by omega)
      rw [Nat.add_mul] at this
      omega
    rw [List.getElem?_append_left (by omega), h2 i (by omega) c hc, hg i (by omega)]

end Go.Proofs.Ybulkkru.net

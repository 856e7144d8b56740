import Derived.Test.YbulkkpqRows
import Derived.WalkKit
import Derived.ProofKit
import Derived.Below
import Derived.OneCell
namespace Go.Proofs.Ybulkkpq.rest
open Go.RowKit

/-- A slice of numbers that came in, as the walks ask it. -/
def NumRow (w : World) (ao : Option Addr) (n : Nat) (Z : List Int) : Prop :=
  0 < n → ∃ b off, ao = some ⟨b, off, none⟩ ∧ b < w.heap.size ∧ ∀ j, j < n → w.cell? ⟨b, off + j, none⟩ = some (.int .u64 (Z.getD j 0))

/-- A slice of strings that came in. -/
def StrRow (w : World) (ao : Option Addr) (n : Nat) (S : List ByteArray) : Prop :=
  0 < n → ∃ b off, ao = some ⟨b, off, none⟩ ∧ b < w.heap.size ∧ ∀ j, j < n → w.cell? ⟨b, off + j, none⟩ = some (.string (S.getD j ByteArray.empty))

theorem NumRow.below {w w' : World} {ao : Option Addr} {n : Nat} {Z : List Int} (h : NumRow w ao n Z) (hb : Below w.heap.size w w') : NumRow w' ao n Z := by
  intro hn
  obtain ⟨b, off, e, hlt, hc⟩ := h hn
  exact ⟨b, off, e, Nat.lt_of_lt_of_le hlt hb.size, fun j hj => (hb.cell (p := ⟨b, off + j, none⟩) hlt).trans (hc j hj)⟩

/-- The cells of one id that rests at place k. -/
def idCells (k : Nat) (s : ByteArray) (z : Int) : Array Value :=
  #[.slice none 0 0, .slice none 0 0, .bool true, .int .i64 k, .string s, .int .u64 z]

/-- The pointers that a heap of these blocks holds. -/
def ptrs (pb : List Nat) : List Value := pb.map fun b => .pointer (some ⟨b, 0, none⟩)

theorem length_ptrs (pb : List Nat) : (ptrs pb).length = pb.length := by simp [ptrs]
theorem ptrs_snoc (pb : List Nat) (b : Nat) : ptrs (pb ++ [b]) = ptrs pb ++ [.pointer (some ⟨b, 0, none⟩)] := by simp [ptrs]
theorem ptrs_get (pb : List Nat) (i : Nat) (h : i < pb.length) : (ptrs pb)[i]? = some (.pointer (some ⟨pb.getD i 0, 0, none⟩)) := by
  simp [ptrs, h]

/-- Block number i of the list is the id at place i. -/
def Nodes (w : World) (B : Nat) (Z : List Int) (pb : List Nat) : Prop :=
  ∀ i, i < pb.length → B ≤ pb.getD i 0 ∧ ∃ s, w.heap[pb.getD i 0]? = some (.cells (idCells i s (Z.getD i 0)) 41 (0, 0))

theorem Nodes.nil (w : World) (B : Nat) (Z : List Int) : Nodes w B Z [] := by intro i hi; simp at hi

theorem Nodes.lt {w : World} {B : Nat} {Z : List Int} {pb : List Nat} (h : Nodes w B Z pb) (i : Nat) (hi : i < pb.length) : pb.getD i 0 < w.heap.size := by
  obtain ⟨_, s, hs⟩ := h i hi
  exact lt_of_block hs

theorem Nodes.kept {w w' : World} {B : Nat} {Z : List Int} {pb : List Nat} (h : Nodes w B Z pb) (hk : ∀ b o c t, b < w.heap.size → w.heap[b]? = some (.cells c 41 (o, t)) → w'.heap[b]? = w.heap[b]?) : Nodes w' B Z pb := by
  intro i hi
  obtain ⟨h1, s, hs⟩ := h i hi
  exact ⟨h1, s, by rw [hk _ _ _ _ (lt_of_block hs) hs]; exact hs⟩

theorem Nodes.alloc {w : World} {B : Nat} {Z : List Int} {pb : List Nat} (h : Nodes w B Z pb) (o : Obj) : Nodes (w.alloc o) B Z pb :=
  h.kept fun b _ _ _ hb _ => Below.heap_alloc w o b hb

theorem Nodes.drew {w : World} {B : Nat} {Z : List Int} {pb : List Nat} (h : Nodes w B Z pb) : Nodes w.drew B Z pb := h

theorem Nodes.grown {w w' : World} {B G : Nat} {Z : List Int} {pb : List Nat} {cur : Array Value} {t : TypeId} {fr : Nat × Nat} (h : Nodes w B Z pb) (hG : w.heap[G]? = some (.cells cur t fr)) (ht : t ≠ 41) (hg : w.grownBy w' (some G)) : Nodes w' B Z pb :=
  h.kept fun b o c t' hb hh => hg.block b hb fun e => by
    obtain rfl := Option.some.inj e
    rw [hG] at hh
    simp at hh
    exact ht hh.2.1

theorem Nodes.below {w w' : World} {B : Nat} {Z : List Int} {pb : List Nat} (h : Nodes w B Z pb) (hb : Below w.heap.size w w') : Nodes w' B Z pb :=
  h.kept fun b _ _ _ hlt _ => hb.block b hlt

theorem getD_append_left (pb : List Nat) (b i : Nat) (h : i < pb.length) : (pb ++ [b]).getD i 0 = pb.getD i 0 := by
  simp [List.getD, List.getElem?_append_left h]

theorem Nodes.snoc {w : World} {B : Nat} {Z : List Int} {pb : List Nat} (h : Nodes w B Z pb) (hB : B ≤ w.heap.size) (s : ByteArray) :
    Nodes (w.alloc (.cells (idCells pb.length s (Z.getD pb.length 0)) 41)) B Z (pb ++ [w.heap.size]) := by
  intro i hi
  simp at hi
  by_cases he : i = pb.length
  · subst he
    have e : (pb ++ [w.heap.size]).getD pb.length 0 = w.heap.size := by simp [List.getD]
    rw [e]
    exact ⟨hB, s, heap_alloc_new w _⟩
  · rw [getD_append_left _ _ _ (by omega)]
    exact (h.alloc _) i (by omega)

/-- A round of the build: one id more. -/
theorem rel_step {w wr w1 : World} {B G n : Nat} {Z : List Int} {pb : List Nat} {s : ByteArray} {v v' : Value} {o : Obj}
    (hnx : Below B w wr) (hB : B ≤ w.heap.size) (hGB : B ≤ G) (hv : v = .slice (some ⟨G, 0, none⟩) pb.length n) (hown : wr.ownsRow B 35 1 v pb.length (ptrs pb)) (hN : Nodes wr B Z pb)
    (hown1 : w1.ownsRow B 35 1 v' (pb.length + 1) (ptrs pb ++ [.pointer (some ⟨wr.heap.size, 0, none⟩)]))
    (hg : ((wr.alloc (.cells (idCells pb.length s (Z.getD pb.length 0)) 41)).alloc o).grownBy w1 (some G)) :
    w1.ownsRow B 35 1 v' (pb ++ [wr.heap.size]).length (ptrs (pb ++ [wr.heap.size])) ∧ Nodes w1 B Z (pb ++ [wr.heap.size]) ∧ Below B w w1 := by
  have hs := hnx.size
  refine ⟨by simpa [ptrs_snoc] using hown1, ?_, ?_⟩
  · obtain ⟨_, h2⟩ := hown
    rcases h2 with ⟨h2, _⟩ | ⟨g, cap, cur, hv', _, hh, _⟩
    · rw [hv] at h2; simp at h2
    · rw [hv] at hv'
      simp at hv'
      obtain ⟨rfl, _⟩ := hv'
      have hlt := lt_of_block hh
      have hh2 : ((wr.alloc (.cells (idCells pb.length s (Z.getD pb.length 0)) 41)).alloc o).heap[G]? = some (.cells cur 35 (0, 0)) := by
        rw [Below.heap_alloc _ _ _ (by simp; omega), Below.heap_alloc _ _ _ hlt]; exact hh
      exact ((hN.snoc (by omega) s).alloc o).grown hh2 (by decide) hg
  · exact ((hnx.alloc (by omega) _).alloc (by simp; omega) _).grown hg (by simp; omega) (fun k hk => by cases hk; exact hGB)

end Go.Proofs.Ybulkkpq.rest

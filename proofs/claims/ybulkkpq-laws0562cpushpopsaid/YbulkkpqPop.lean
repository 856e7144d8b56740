import Derived.Test.YbulkkpqPushLaw
namespace Go.Proofs.Ybulkkpq.rest
open Go.RowKit
set_option linter.unusedVariables false

theorem cell_set_other {w : World} {a b : Addr} {v : Value} (h : a ≠ b) : (w.setCell a v).cell? b = w.cell? b := by
  apply World.cell?_setCell_other
  exact h

set_option maxHeartbeats 2000000 in
set_option maxRecDepth 100000 in
theorem pop_any (B Hb E g n cap : Nat) (pb : List Nat) (d0 d1 d3 d4 d5 : Value) (x2 : Bool) (w : World) (hn : n ≤ 1024) (hpb : pb.length = n) (hcap : n + 1 ≤ cap)
    (hH : w.heap[Hb]? = some (.cells #[.slice (some ⟨g, 0, none⟩) (n + 1) cap] 33 (0, 0)))
    (hE : w.heap[E]? = some (.cells #[d0, d1, .bool x2, d3, d4, d5] 41 (0, 0)))
    (hown : w.ownsRow B 35 1 (.slice (some ⟨g, 0, none⟩) (n + 1) cap) (n + 1) (ptrs (pb ++ [E]))) (hHB : B ≤ Hb) (hEB : B ≤ E) :
    Calls Yba.prog 12 #[.pointer (some ⟨Hb, 0, none⟩)] w fun e w' =>
      e = .returned (.iface 35 (.pointer (some ⟨E, 0, none⟩))) ∧ w'.heap[Hb]? = some (.cells #[.slice (some ⟨g, 0, none⟩) n cap] 33 (0, 0)) ∧ w'.heap[E]? = some (.cells #[d0, d1, .bool false, d3, d4, d5] 41 (0, 0)) ∧
      (∀ i, i < n → w'.cell? ⟨g, i, none⟩ = (ptrs pb)[i]?) ∧ (∀ b, b < w.heap.size → b ≠ Hb → b ≠ E → b ≠ g → w'.heap[b]? = w.heap[b]?) ∧ Below B w w' := by
  have hne : Hb ≠ E := by rintro rfl; rw [hH] at hE; simp at hE
  have hgE : g ≠ E := owns_ne hown hE (by decide)
  have hgH : g ≠ Hb := owns_ne hown hH (by decide)
  have c1 : w.cell? ⟨Hb, 0, none⟩ = some (.slice (some ⟨g, 0, none⟩) (n + 1) cap) := cell_of_block hH
  have f1 : w.frozen? ⟨Hb, 0, none⟩ = false := free_of_block hH
  have c2 : w.cell? ⟨E, 2, none⟩ = some (.bool x2) := cell_of_block hE
  have f2 : w.frozen? ⟨E, 2, none⟩ = false := free_of_block hE
  have k2 : w.cell? ⟨g, n, none⟩ = some (.pointer (some ⟨E, 0, none⟩)) := by
    rw [hown.cellAt n (by omega), ptrs_get _ _ (by simp [hpb])]; simp [List.getD, ← hpb]
  have k3 : w.frozen? ⟨g, n, none⟩ = false := hown.frozenAt n
  have hH' : Hid (w.heap[Hb]? = some (.cells #[.slice (some ⟨g, 0, none⟩) (n + 1) cap] 33 (0, 0))) := hH
  have hE' : Hid (w.heap[E]? = some (.cells #[d0, d1, .bool x2, d3, d4, d5] 41 (0, 0))) := hE
  clear hH hE
  have a1 : (n : Int) < (n : Int) + 1 := by omega
  have a2 : (0 : Int) ≤ (n : Int) := by omega
  have a3 : (n : Int) ≤ (cap : Int) := by omega
  go_enter Yba.func12, Yba.ntmps12
  go_wp2
  go_quiet (fail)
  go_wp2
  generalize hw2 : (w.drewN nq).setCell ⟨E, 2, none⟩ (.bool false) = w2
  have F2 : (∀ b, b ≠ E → w2.heap[b]? = w.heap[b]?) ∧ w2.heap[E]? = some (.cells #[d0, d1, .bool false, d3, d4, d5] 41 (0, 0)) ∧ Below B w w2 ∧ w2.heap.size = w.heap.size := by
    subst hw2
    refine ⟨fun b hb => Below.heap_setCell (w.drewN nq) _ _ _ hb, ?_, (below_drewN (Below.refl B w) nq).setCell (by exact hEB) _, size_setCell _ _ _⟩
    have e1 := block_setCell (w := w.drewN nq) (i := 2) (u := .bool false) hE'.out
    simpa using e1
  clear hw2
  obtain ⟨F2a, F2b, F2c, F2d⟩ := F2
  have hH2 := (F2a Hb hne).trans hH'.out
  have hown2 := owns_of_block hown (F2a g hgE)
  have c1' : w2.cell? ⟨Hb, 0, none⟩ = some (.slice (some ⟨g, 0, none⟩) (n + 1) cap) := cell_of_block hH2
  have f1' : w2.frozen? ⟨Hb, 0, none⟩ = false := free_of_block hH2
  have k2' : w2.cell? ⟨g, n, none⟩ = some (.pointer (some ⟨E, 0, none⟩)) := by
    rw [hown2.cellAt n (by omega), ptrs_get _ _ (by simp [hpb])]; simp [List.getD, ← hpb]
  have k3' : w2.frozen? ⟨g, n, none⟩ = false := hown2.frozenAt n
  have HH2 : Hid _ := hH2
  have HE2 : Hid _ := F2b
  clear hH2 F2b
  go_region
  go_wp2
  generalize hw3 : (w2.setCell ⟨g, n, none⟩ (.pointer none)).drew = w3
  have F3 : (∀ b, b ≠ g → w3.heap[b]? = w2.heap[b]?) ∧ (∀ i, i < n → w3.cell? ⟨g, i, none⟩ = (ptrs pb)[i]?) ∧ Below B w w3 ∧ w3.heap.size = w.heap.size := by
    subst hw3
    refine ⟨fun b hb => Below.heap_setCell w2 _ _ _ hb, fun i hi => ?_, (F2c.setCell (by exact (hown.lt g rfl).1) _).drew, ?_⟩
    · show (w2.setCell ⟨g, n, none⟩ (.pointer none)).cell? ⟨g, i, none⟩ = _
      rw [cell_set_other (by intro h; injection h; omega), hown2.cellAt i (by omega), ptrs_snoc, List.getElem?_append_left (by rw [length_ptrs]; omega)]
    · show (w2.setCell ⟨g, n, none⟩ (.pointer none)).heap.size = _
      rw [size_setCell, F2d]
  clear hw3
  obtain ⟨F3a, F3b, F3c, F3d⟩ := F3
  have hH3 := (F3a Hb (Ne.symm hgH)).trans HH2.out
  have c1'' : w3.cell? ⟨Hb, 0, none⟩ = some (.slice (some ⟨g, 0, none⟩) (n + 1) cap) := cell_of_block hH3
  have f1'' : w3.frozen? ⟨Hb, 0, none⟩ = false := free_of_block hH3
  have HH3 : Hid _ := hH3
  clear hH3 k2' k3' c1' f1' k2 k3 c1 f1 c2 f2
  go_region
  go_wp2
  go_ret
  refine ⟨rfl, ?_, ?_, ?_, ?_, ?_⟩
  · exact one_setCell HH3.out
  · exact (Below.heap_setCell w3 _ _ _ (Ne.symm hne)).trans ((F3a E (Ne.symm hgE)).trans HE2.out)
  · intro i hi
    exact (cell_set_other (w := w3) (by intro h; injection h with h; exact hgH h.symm)).trans (F3b i hi)
  · intro b _ h1 h2 h3
    exact (Below.heap_setCell w3 _ _ _ h1).trans ((F3a b h3).trans (F2a b h2))
  · exact (F3c.setCell (by exact hHB) _).drew

end Go.Proofs.Ybulkkpq.rest

import Derived.Test.YbulkkpqKept
import Derived.Laws.CopyOwn
namespace Go.Proofs.Ybulkkpq.rest
open Go.RowKit
set_option linter.unusedVariables false

theorem size35 : (Yba.prog.info? 35).map (·.size) = some 1 := by kernel_rfl

theorem owns_of_block {w w' : World} {B e g n cap : Nat} {xs : List Value} (h : w.ownsRow B e 1 (.slice (some ⟨g, 0, none⟩) n cap) n xs) (hb : w'.heap[g]? = w.heap[g]?) : w'.ownsRow B e 1 (.slice (some ⟨g, 0, none⟩) n cap) n xs := by
  obtain ⟨h1, h2⟩ := h
  refine ⟨h1, ?_⟩
  rcases h2 with h2 | ⟨g', c', cur, hv, hg, hh, r⟩
  · exact Or.inl h2
  · simp at hv
    obtain ⟨rfl, rfl⟩ := hv
    exact Or.inr ⟨g, cap, cur, rfl, hg, hb.trans hh, r⟩

/-- The made row, as a list. -/
theorem made_row {w : World} {B e g n : Nat} {xs : List Value} (h : w.ownsRow B e 1 (.slice (some ⟨g, 0, none⟩) n n) n xs) : w.heap[g]? = some (.cells xs.toArray e (0, 0)) ∧ xs.length = n := by
  obtain ⟨h1, h2⟩ := h
  rcases h2 with ⟨h2, _⟩ | ⟨g', c', cur, hv, hg, hh, _, _, hs, ht⟩
  · simp at h2
  · simp at hv
    obtain ⟨rfl, rfl⟩ := hv
    have : cur.toList = xs := by rw [← ht, List.take_of_length_le (by simp; omega)]
    subst this
    exact ⟨by simpa using hh, by simpa using h1⟩

theorem splice_all {α : Type} (L cs : List α) (h : L.length = cs.length) : splice L 0 cs = cs := by
  simp [splice, h]

theorem Nodes.keptB {w w' : World} {B G : Nat} {Z : List Int} {pb : List Nat} {cur : Array Value} {t : TypeId} {fr : Nat × Nat} (h : Nodes w B Z pb) (hG : w.heap[G]? = some (.cells cur t fr)) (ht : t ≠ 41) (hk : ∀ b, b < w.heap.size → b ≠ G → w'.heap[b]? = w.heap[b]?) : Nodes w' B Z pb :=
  h.kept fun b o c t' hb hh => hk b hb fun e => by
    subst e
    rw [hG] at hh
    simp at hh
    exact ht hh.2.1

attribute [local go_sem] neq35

set_option maxHeartbeats 4000000 in
set_option maxRecDepth 100000 in
theorem push_walk (ao io : Option Addr) (n cap m icap : Nat) (Z : List Int) (S : List ByteArray) (rest : Bool) (at_ score : Int) (w : World) (hn : n ≤ 1024) (hm : m ≤ maxLen) (hZ : NumRow w ao n Z) (hS : StrRow w io m S) :
    Calls Yba.prog 5 #[.slice ao n cap, .slice io m icap, .bool rest, .int .i64 at_, .int .u64 score] w fun e w' => e = .returned (.bool true) ∧ Below w.heap.size w w' := by
  obtain ⟨i0, hi, hz0, hz1, hz2⟩ := info_parts info35
  go_enter Yba.func5, Yba.ntmps5
  go_wp2_with fail
  refine (build_any ao io n cap m icap Z S w hn hm hZ hS).mono ?_
  rintro e w1 ⟨pb, rfl, hpb, hown1, hN1, hb1⟩
  have hs1 := hb1.size
  go_wp2_with (at_make; refine wpList_make_full _ rfl _ _ 32 rfl w.heap.size 35 i0 (.pointer none) 1 Yba.underlying32 hi hz0 hz1 _ _ _ _ n rfl rfl (by omega) (by omega) ?b2 ?b3 ?b4 ?_)
  case b2 => rw [hz2]; omega
  case b3 => unfold maxLen; omega
  case b4 => simp; omega
  intro w2 hown2 hgrow2
  have hH1 : w2.heap[w1.heap.size]? = some (.cells #[.slice (some ⟨w.heap.size, 0, none⟩) n n] 33 (0, 0)) :=
    (hgrow2.block _ (by simp) (by simp)).trans (heap_alloc_new _ _)
  have hG2 : ∀ b, b < w1.heap.size → w2.heap[b]? = w1.heap[b]? := fun b hb => (hgrow2.block _ (by simp; omega) (by simp)).trans (Below.heap_alloc _ _ _ hb)
  have hs2 : w1.heap.size + 1 ≤ w2.heap.size := by have := hgrow2.size; simpa using this
  have hb2 : Below w.heap.size w w2 := (hb1.alloc hs1 _).grown hgrow2 (by simp; omega) (fun k h => by cases h)
  obtain ⟨cur, hO1, hO2⟩ : ∃ cur : List Value, w2.heap[w1.heap.size + 1]? = some (.cells cur.toArray 35 (0, 0)) ∧ cur.length = n := ⟨_, made_row hown2⟩
  have hH1c := cell_of_one hH1
  have hOlt := lt_of_block hO1
  have hGlt := (hown1.lt _ rfl).2
  have hsrc : ∀ j v, (ptrs pb)[j]? = some v → w2.cell? ⟨w.heap.size, j, none⟩ = some v := by
    intro j v hj
    have hj' : j < n := by have := (List.getElem?_eq_some_iff.1 hj).1; simpa [length_ptrs, hpb] using this
    rw [World.cell?_of_block (w := w1) (a := ⟨w.heap.size, j, none⟩) (hG2 _ hGlt), hown1.cellAt j (by omega)]
    exact hj
  have HH1 : Hid _ := hH1
  have HO1 : Hid _ := hO1
  have HO2 : Hid _ := hO2
  clear hH1 hO1 hO2 hown2
  go_wp2_with ((with_reducible show Go.wpList _ _ _ (_ :: _) _ _); refine wpList_copy_splice rfl (.tmp 24) (.tmp 25) 32 33 rfl 35 Yba.underlying32 size35 _ _ n n n n rfl rfl (w1.heap.size + 1) 0 cur 35 HO1.out (ptrs pb) ?h1 ?h2 ?h3 ?h4 (w1.heap.size + 1) w2 (Below.refl _ _) (Nat.le_refl _) ?_)
  case h1 => simp [length_ptrs, hpb]
  case h2 => exact fun _ => hsrc
  case h3 => simp [length_ptrs, hpb, HO2.out]
  case h4 => intro v hv; simp [ptrs] at hv; obtain ⟨_, _, rfl⟩ := hv; rfl
  intro w3 HO3 hb3
  have hO3 : Hid (w3.heap[w1.heap.size + 1]? = some (.cells (ptrs pb).toArray 35 (0, 0))) := by
    have := HO3.out
    rwa [splice_all _ _ (by rw [HO2.out, length_ptrs, hpb])] at this
  have hs3 : w2.heap.size ≤ w3.heap.size := hb3.size
  have hG3 : ∀ b, b < w1.heap.size → w3.heap[b]? = w1.heap[b]? := fun b hb => (hb3.block b (by omega)).trans (hG2 b hb)
  have HH3 : Hid (w3.heap[w1.heap.size]? = some (.cells #[.slice (some ⟨w.heap.size, 0, none⟩) n n] 33 (0, 0))) := (hb3.block _ (by omega)).trans HH1.out
  have hown3 := owns_of_block hown1 (hG3 _ hGlt)
  have hb3' : Below w.heap.size w w3 := hb2.trans (hb3.mono (by omega))
  clear hsrc HO3 hH1c HH1 HO1 HO2
  go_wp2_with fail
  refine (push_any w.heap.size w1.heap.size w3.heap.size w.heap.size n n pb _ at_ score rest _ hn (by simp; omega) ((Below.heap_alloc _ _ _ (by omega)).trans HH3.out) (heap_alloc_new _ _) (hown3.alloc _) hs1 (by omega)).mono ?_
  rintro e w5 ⟨v', rfl, hH5, hE5, hown5, hG5, hb5⟩
  obtain ⟨g', cap', rfl⟩ := owns_shape hown5
  have hs5 : w3.heap.size + 1 ≤ w5.heap.size := by have := hb5.size; simpa using this
  have k1 : w5.cell? ⟨w1.heap.size, 0, none⟩ = some (.slice (some ⟨g', 0, none⟩) (n + 1) cap') := cell_of_one hH5
  have k2 : w5.cell? ⟨g', n, none⟩ = some (.pointer (some ⟨w3.heap.size, 0, none⟩)) := by
    rw [hown5.cellAt n (by omega), ptrs_get _ _ (by simp [hpb])]; simp [List.getD, ← hpb]
  have k3 : w5.cell? ⟨w3.heap.size, 2, none⟩ = some (.bool true) := cell_of_block hE5
  have k4 : w5.cell? ⟨w3.heap.size, 3, none⟩ = some (.int .i64 n) := cell_of_block hE5
  have k5 : w5.cell? ⟨w3.heap.size, 4, none⟩ = some (.string ⟨#[120]⟩) := cell_of_block hE5
  have k6 : w5.cell? ⟨w3.heap.size, 5, none⟩ = some (.int .u64 score) := cell_of_block hE5
  have hA5 : ∀ b, b < w1.heap.size → b ≠ w.heap.size → w5.heap[b]? = w1.heap[b]? := fun b hb hne =>
    (hG5 b (by simp; omega) (by omega) (by omega) hne).trans ((Below.heap_alloc _ _ _ (by omega)).trans (hG3 b hb))
  have hO5 : Hid (w5.heap[w1.heap.size + 1]? = some (.cells (ptrs pb).toArray 35 (0, 0))) :=
    (hG5 _ (by simp; omega) (by omega) (by omega) (by omega)).trans ((Below.heap_alloc _ _ _ (by omega)).trans hO3.out)
  have hb5' : Below w.heap.size w w5 := (hb3'.alloc (by omega) _).trans hb5
  have hN5 : Nodes w5 w.heap.size Z pb := by
    obtain ⟨_, h2⟩ := hown1
    rcases h2 with ⟨h2, _⟩ | ⟨g, c', cur', hv', _, hh, _⟩
    · simp at h2
    · simp at hv'
      obtain ⟨rfl, _⟩ := hv'
      exact hN1.keptB hh (by decide) hA5
  have hZ5 := hZ.below hb5'
  clear hH5 hE5 hG5 hA5 hG3 hG2 HH3 hO3
  have a1 : (n : Int) < (n : Int) + 1 := by omega
  go_wp2_with fail
  refine (kept_any w.heap.size g' (w1.heap.size + 1) (n + 1) cap' n n cap ao pb Z w5 hn (by omega) (by omega) (by omega) ?h1 ?h2 (hown5.lt _ rfl).2 (by omega) hN5 hZ5).mono ?_
  case h1 =>
    intro i hi
    rw [hown5.cellAt i (by omega), ptrs_snoc, List.getElem?_append_left (by rw [length_ptrs]; omega)]
  case h2 =>
    intro i hi
    rw [cell_of_block hO5.out]; simp
  rintro e w6 ⟨rfl, hb6⟩
  go_wp2
  go_ret
  exact ⟨rfl, hb5'.trans (hb6.mono (by omega))⟩

/-- More than 1024 scores: the law says true at once. -/
theorem push_many (ao io : Option Addr) (n cap m icap : Nat) (rest : Bool) (at_ score : Int) (w : World) (hn : 1024 < n) (hm : n ≤ maxLen) :
    Calls Yba.prog 5 #[.slice ao n cap, .slice io m icap, .bool rest, .int .i64 at_, .int .u64 score] w fun e w' => e = .returned (.bool true) ∧ Below w.heap.size w w' := by
  have h1 : (1024 : Int) < (n : Int) := by omega
  go_enter Yba.func5, Yba.ntmps5
  go_wp2
  go_ret
  exact ⟨rfl, Below.refl _ _⟩

end Go.Proofs.Ybulkkpq.rest

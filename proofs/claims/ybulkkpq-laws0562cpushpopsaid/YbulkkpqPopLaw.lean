import Derived.Test.YbulkkpqPop
namespace Go.Proofs.Ybulkkpq.rest
open Go.RowKit
set_option linter.unusedVariables false
attribute [local go_sem] neq35 assert35 assert35ok

theorem Nodes.kept2 {w w1 w' : World} {B : Nat} {Z : List Int} {pb : List Nat} (h : Nodes w B Z pb) (h1 : Nodes w1 B Z pb) (hk : ∀ b c fr, b < w1.heap.size → w.heap[b]? = some (.cells c 41 fr) → w'.heap[b]? = w.heap[b]?) : Nodes w' B Z pb := by
  intro i hi
  have hlt := h1.lt i hi
  obtain ⟨h1, s, hs⟩ := h i hi
  exact ⟨h1, s, by rw [hk _ _ _ hlt hs]; exact hs⟩

theorem owns_big {w : World} {B e g n N cap b : Nat} {cs : Array Value} {xs : List Value} {t : TypeId} (h : w.ownsRow B e 1 (.slice (some ⟨g, 0, none⟩) n cap) n xs) (hb : w.heap[b]? = some (.cells cs t (0, 0))) (hN : cs.size < n) : g ≠ b := by
  rintro rfl
  obtain ⟨_, h2⟩ := h
  rcases h2 with ⟨h2, _⟩ | ⟨g', c', cur, hv', _, hh, hc, _, hs, _⟩
  · simp at h2
  · simp at hv'
    obtain ⟨rfl, rfl⟩ := hv'
    rw [hb] at hh
    simp at hh
    rw [hh.1] at hN
    omega

set_option maxHeartbeats 4000000 in
set_option maxRecDepth 100000 in
theorem poppush_walk (ao io : Option Addr) (n cap m icap : Nat) (Z : List Int) (S : List ByteArray) (rest : Bool) (at_ score : Int) (w : World) (hn : n ≤ 1024) (hm : m ≤ maxLen) (hZ : NumRow w ao n Z) (hS : StrRow w io m S) :
    Calls Yba.prog 6 #[.slice ao n cap, .slice io m icap, .bool rest, .int .i64 at_, .int .u64 score] w fun e w' => e = .returned (.bool true) ∧ Below w.heap.size w w' := by
  obtain ⟨i0, hi, hz0, hz1, hz2⟩ := info_parts info35
  go_enter Yba.func6, Yba.ntmps6
  go_wp2_with fail
  refine (build_any ao io n cap m icap Z S w hn hm hZ hS).mono ?_
  rintro e w1 ⟨pb, rfl, hpb, hown1, hN1, hb1⟩
  have hs1 := hb1.size
  go_wp2_with (at_make; refine wpList_make_full _ rfl _ _ 32 rfl w.heap.size 35 i0 (.pointer none) 1 Yba.underlying32 hi hz0 hz1 _ _ _ _ n rfl rfl (by omega) (by omega) ?b2 ?b3 ?b4 ?_)
  case b2 => rw [hz2]; omega
  case b3 => unfold maxLen; omega
  case b4 => simp; omega
  intro w2 hown2 hgrow2
  have hH1 : w2.heap[w1.heap.size]? = some (.cells #[.slice (some ⟨w.heap.size, 0, none⟩) n n] 33 (0, 0)) :=
    (hgrow2.block _ (by simp) (by simp)).trans (heap_alloc_new _ _)
  have hG2 : ∀ b, b < w1.heap.size → w2.heap[b]? = w1.heap[b]? := fun b hb => (hgrow2.block _ (by simp; omega) (by simp)).trans (Below.heap_alloc _ _ _ hb)
  have hs2 : w1.heap.size + 1 ≤ w2.heap.size := by have := hgrow2.size; simpa using this
  have hb2 : Below w.heap.size w w2 := (hb1.alloc hs1 _).grown hgrow2 (by simp; omega) (fun k h => by cases h)
  obtain ⟨cur, hO1, hO2⟩ : ∃ cur : List Value, w2.heap[w1.heap.size + 1]? = some (.cells cur.toArray 35 (0, 0)) ∧ cur.length = n := ⟨_, made_row hown2⟩
  have hH1c := cell_of_one hH1
  have hOlt := lt_of_block hO1
  have hGlt := (hown1.lt _ rfl).2
  have hsrc : ∀ j v, (ptrs pb)[j]? = some v → w2.cell? ⟨w.heap.size, j, none⟩ = some v := by
    intro j v hj
    have hj' : j < n := by have := (List.getElem?_eq_some_iff.1 hj).1; simpa [length_ptrs, hpb] using this
    rw [World.cell?_of_block (w := w1) (a := ⟨w.heap.size, j, none⟩) (hG2 _ hGlt), hown1.cellAt j (by omega)]
    exact hj
  have HH1 : Hid _ := hH1
  have HO1 : Hid _ := hO1
  have HO2 : Hid _ := hO2
  clear hH1 hO1 hO2 hown2
  go_wp2_with ((with_reducible show Go.wpList _ _ _ (_ :: _) _ _); refine wpList_copy_splice rfl (.tmp 26) (.tmp 27) 32 33 rfl 35 Yba.underlying32 size35 _ _ n n n n rfl rfl (w1.heap.size + 1) 0 cur 35 HO1.out (ptrs pb) ?h1 ?h2 ?h3 ?h4 (w1.heap.size + 1) w2 (Below.refl _ _) (Nat.le_refl _) ?_)
  case h1 => simp [length_ptrs, hpb]
  case h2 => exact fun _ => hsrc
  case h3 => simp [length_ptrs, hpb, HO2.out]
  case h4 => intro v hv; simp [ptrs] at hv; obtain ⟨_, _, rfl⟩ := hv; rfl
  intro w3 HO3 hb3
  have hO3 : Hid (w3.heap[w1.heap.size + 1]? = some (.cells (ptrs pb).toArray 35 (0, 0))) := by
    have := HO3.out
    rwa [splice_all _ _ (by rw [HO2.out, length_ptrs, hpb])] at this
  have hs3 : w2.heap.size ≤ w3.heap.size := hb3.size
  have hG3 : ∀ b, b < w1.heap.size → w3.heap[b]? = w1.heap[b]? := fun b hb => (hb3.block b (by omega)).trans (hG2 b hb)
  have HH3 : Hid (w3.heap[w1.heap.size]? = some (.cells #[.slice (some ⟨w.heap.size, 0, none⟩) n n] 33 (0, 0))) := (hb3.block _ (by omega)).trans HH1.out
  have hown3 := owns_of_block hown1 (hG3 _ hGlt)
  have hb3' : Below w.heap.size w w3 := hb2.trans (hb3.mono (by omega))
  clear hsrc HO3 hH1c HH1 HO1 HO2
  go_wp2_with fail
  refine (push_any w.heap.size w1.heap.size w3.heap.size w.heap.size n n pb _ at_ score rest _ hn (by simp; omega) ((Below.heap_alloc _ _ _ (by omega)).trans HH3.out) (heap_alloc_new _ _) (hown3.alloc _) hs1 (by omega)).mono ?_
  rintro e w5 ⟨v', rfl, hH5, hE5, hown5, hG5, hb5⟩
  obtain ⟨g', cap', rfl⟩ := owns_shape hown5
  have hs5 : w3.heap.size + 1 ≤ w5.heap.size := by have := hb5.size; simpa using this
  have hA5 : ∀ b, b < w1.heap.size → b ≠ w.heap.size → w5.heap[b]? = w1.heap[b]? := fun b hb hne =>
    (hG5 b (by simp; omega) (by omega) (by omega) hne).trans ((Below.heap_alloc _ _ _ (by omega)).trans (hG3 b hb))
  have hO5 : Hid (w5.heap[w1.heap.size + 1]? = some (.cells (ptrs pb).toArray 35 (0, 0))) :=
    (hG5 _ (by simp; omega) (by omega) (by omega) (by omega)).trans ((Below.heap_alloc _ _ _ (by omega)).trans hO3.out)
  have hb5' : Below w.heap.size w w5 := (hb3'.alloc (by omega) _).trans hb5
  have hN5 : Nodes w5 w.heap.size Z pb := by
    obtain ⟨_, h2⟩ := hown1
    rcases h2 with ⟨h2, _⟩ | ⟨g, c', cur', hv', _, hh, _⟩
    · simp at h2
    · simp at hv'
      obtain ⟨rfl, _⟩ := hv'
      exact hN1.keptB hh (by decide) hA5
  have hcap' : n + 1 ≤ cap' := by
    obtain ⟨_, h2⟩ := hown5
    rcases h2 with ⟨h2, _⟩ | ⟨g, c', cur', hv', _, hh, hc', _⟩
    · simp at h2
    · simp at hv'
      omega
  have HH5 : Hid _ := hH5
  have HE5 : Hid _ := hE5
  have hg5 := hown5.lt _ rfl
  have hgO : g' ≠ w1.heap.size + 1 := owns_big (N := n) hown5 hO5.out (by simp [length_ptrs, hpb])
  clear hH5 hE5 hG5 hG3 hG2 HH3 hO3
  go_wp2_with fail
  refine (pop_any w.heap.size w1.heap.size w3.heap.size g' n cap' pb _ _ _ _ _ true w5 hn hpb hcap' HH5.out HE5.out hown5 hs1 (by omega)).mono ?_
  rintro e w6 ⟨rfl, hH6, hE6, hc6, hG6, hb6⟩
  have hs6 : w5.heap.size ≤ w6.heap.size := hb6.size
  have k1 : w6.cell? ⟨w1.heap.size, 0, none⟩ = some (.slice (some ⟨g', 0, none⟩) n cap') := cell_of_one hH6
  have k3 : w6.cell? ⟨w3.heap.size, 2, none⟩ = some (.bool false) := cell_of_block hE6
  have k4 : w6.cell? ⟨w3.heap.size, 3, none⟩ = some (.int .i64 n) := cell_of_block hE6
  have hO6 : Hid (w6.heap[w1.heap.size + 1]? = some (.cells (ptrs pb).toArray 35 (0, 0))) :=
    (hG6 _ (by omega) (by omega) (by omega) (Ne.symm hgO)).trans hO5.out
  have hb6' : Below w.heap.size w w6 := hb5'.trans hb6
  have hN6 : Nodes w6 w.heap.size Z pb := by
    refine hN5.kept2 hN1 fun b c fr hlt hh => hG6 b (by omega) (by omega) (by omega) ?_
    rintro rfl
    obtain ⟨_, h2⟩ := hown5
    rcases h2 with ⟨h2, _⟩ | ⟨g, c', cur', hv', _, hh', _⟩
    · simp at h2
    · simp at hv'
      rw [← hv'.1, hh] at hh'
      simp at hh'
  have hZ6 := hZ.below hb6'
  clear hH6 hE6 hG6 hA5
  go_wp2_with fail
  refine (kept_any w.heap.size g' (w1.heap.size + 1) n cap' n n cap ao pb Z w6 hn (by omega) (by omega) (by omega) hc6 ?h2 (by omega) (by omega) hN6 hZ6).mono ?_
  case h2 =>
    intro i hi
    rw [cell_of_block hO6.out]; simp
  rintro e w7 ⟨rfl, hb7⟩
  go_wp2
  go_ret
  exact ⟨rfl, hb6'.trans (hb7.mono (by omega))⟩

/-- More than 1024 scores: the law says true at once. -/
theorem poppush_many (ao io : Option Addr) (n cap m icap : Nat) (rest : Bool) (at_ score : Int) (w : World) (hn : 1024 < n) (hm : n ≤ maxLen) :
    Calls Yba.prog 6 #[.slice ao n cap, .slice io m icap, .bool rest, .int .i64 at_, .int .u64 score] w fun e w' => e = .returned (.bool true) ∧ Below w.heap.size w w' := by
  have h1 : (1024 : Int) < (n : Int) := by omega
  go_enter Yba.func6, Yba.ntmps6
  go_wp2
  go_ret
  exact ⟨rfl, Below.refl _ _⟩

end Go.Proofs.Ybulkkpq.rest

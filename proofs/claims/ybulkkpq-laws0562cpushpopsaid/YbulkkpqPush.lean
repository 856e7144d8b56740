import Derived.Test.YbulkkpqBuild
namespace Go.Proofs.Ybulkkpq.rest
open Go.RowKit
set_option linter.unusedVariables false

/-- A store into a block whose cells are known. -/
theorem block_setCell {w : World} {b i : Nat} {cs : Array Value} {t : TypeId} {fr : Nat × Nat} {u : Value} (h : w.heap[b]? = some (.cells cs t fr)) : (w.setCell ⟨b, i, none⟩ u).heap[b]? = some (.cells (cs.setIfInBounds i u) t fr) := by
  have hlt := lt_of_block h
  have h' : w.heap[b] = .cells cs t fr := by simpa [Array.getElem?_eq_getElem hlt] using h
  show (w.heap.modify b _)[b]? = _
  rw [Array.getElem?_eq_getElem (by simpa using hlt), Array.getElem_modify_self, h']
  rfl

theorem size_setCell (w : World) (a : Addr) (u : Value) : (w.setCell a u).heap.size = w.heap.size := by simp [World.setCell]

theorem cell_of_block {w : World} {b i : Nat} {cs : Array Value} {t : TypeId} {fr : Nat × Nat} (h : w.heap[b]? = some (.cells cs t fr)) : w.cell? ⟨b, i, none⟩ = cs[i]? := by simp [World.cell?, h]
theorem free_of_block {w : World} {b i : Nat} {cs : Array Value} {t : TypeId} (h : w.heap[b]? = some (.cells cs t (0, 0))) : w.frozen? ⟨b, i, none⟩ = false := by simp [World.frozen?, h]

theorem owns_shape {w : World} {B e n : Nat} {v : Value} {xs : List Value} (h : w.ownsRow B e 1 v (n + 1) xs) : ∃ g cap, v = .slice (some ⟨g, 0, none⟩) (n + 1) cap := by
  obtain ⟨_, h2⟩ := h
  rcases h2 with ⟨_, h2⟩ | ⟨g, cap, cur, hv, _⟩
  · omega
  · exact ⟨g, cap, hv⟩

theorem push_cell (w : World) (E n : Nat) (c : Array Value) (t : TypeId) (u : Value) (i : Nat) (h : c[i]? = some u) :
    (((w.setCell ⟨E, 2, none⟩ (.bool true)).setCell ⟨E, 3, none⟩ (.int .i64 n)).alloc (.cells c t)).cell? ⟨w.heap.size, i, none⟩ = some u := by
  rw [World.cell?_alloc_at _ _ _ _ (by simp)]; exact h

theorem push_block {w w1 : World} {E G n : Nat} {o : Obj} (hg : (((w.setCell ⟨E, 2, none⟩ (.bool true)).setCell ⟨E, 3, none⟩ (.int .i64 n)).alloc o).grownBy w1 (some G))
    (b : Nat) (hb : b < w.heap.size) (hE : b ≠ E) (hG : b ≠ G) : w1.heap[b]? = w.heap[b]? := by
  rw [hg.block b (by simp; omega) (fun e => hG (Option.some.inj e)), Below.heap_alloc _ _ _ (by simp; omega), Below.heap_setCell _ _ _ _ (by simpa using hE), Below.heap_setCell _ _ _ _ (by simpa using hE)]

theorem push_en {w w1 : World} {E G n : Nat} {o : Obj} {c0 c1 c2 c3 c4 c5 : Value} (hg : (((w.setCell ⟨E, 2, none⟩ (.bool true)).setCell ⟨E, 3, none⟩ (.int .i64 n)).alloc o).grownBy w1 (some G))
    (hE : w.heap[E]? = some (.cells #[c0, c1, c2, c3, c4, c5] 41 (0, 0))) (hG : G ≠ E) : w1.heap[E]? = some (.cells #[c0, c1, .bool true, .int .i64 n, c4, c5] 41 (0, 0)) := by
  have hlt := lt_of_block hE
  rw [hg.block E (by simp; omega) (fun e => hG (Option.some.inj e).symm), Below.heap_alloc _ _ _ (by simp; omega)]
  have e1 := block_setCell (i := 2) (u := .bool true) hE
  have e2 := block_setCell (i := 3) (u := .int .i64 n) e1
  simpa using e2

theorem push_below {B : Nat} {w w1 : World} {E G n : Nat} {o : Obj} (hg : (((w.setCell ⟨E, 2, none⟩ (.bool true)).setCell ⟨E, 3, none⟩ (.int .i64 n)).alloc o).grownBy w1 (some G))
    (hBs : B ≤ w.heap.size) (hE : B ≤ E) (hG : B ≤ G) : Below B w w1 :=
  ((((Below.refl B w).setCell (by exact hE) _).setCell (by exact hE) _).alloc (by simp; omega) _).grown hg (by simp; omega) (fun k hk => by cases hk; exact hG)

theorem owns_ne {w : World} {B e g n cap b t : Nat} {cs : Array Value} {xs : List Value} (h : w.ownsRow B e 1 (.slice (some ⟨g, 0, none⟩) n cap) n xs) (hb : w.heap[b]? = some (.cells cs t (0, 0))) (ht : t ≠ e) : g ≠ b := by
  rintro rfl
  obtain ⟨_, h2⟩ := h
  rcases h2 with ⟨h2, _⟩ | ⟨g', c', cur, hv', _, hh, _⟩
  · simp at h2
  · simp at hv'
    obtain ⟨rfl, _⟩ := hv'
    rw [hb] at hh
    simp at hh
    exact ht hh.2

theorem assert35 (W : World) (v : Value) : (Instr.typeAssert (.iface 35 v) 20 35 false).run Yba.prog W = .ok v W := by kernel_rfl
theorem assert35ok (W : World) (v : Value) : (Instr.typeAssert (.iface 35 v) 20 35 true).run Yba.prog W = .ok (.tuple #[v, .bool true]) W := by kernel_rfl
attribute [local go_sem] assert35 assert35ok

set_option maxHeartbeats 2000000 in
set_option maxRecDepth 100000 in
theorem push_any (B Hb E G n cap : Nat) (pb : List Nat) (s : ByteArray) (x3 x5 : Int) (x2 : Bool) (w : World) (hn : n ≤ 1024) (hBs : B ≤ w.heap.size)
    (hH : w.heap[Hb]? = some (.cells #[.slice (some ⟨G, 0, none⟩) n cap] 33 (0, 0)))
    (hE : w.heap[E]? = some (.cells #[.slice none 0 0, .slice none 0 0, .bool x2, .int .i64 x3, .string s, .int .u64 x5] 41 (0, 0)))
    (hown : w.ownsRow B 35 1 (.slice (some ⟨G, 0, none⟩) n cap) n (ptrs pb)) (hHB : B ≤ Hb) (hEB : B ≤ E) :
    Calls Yba.prog 10 #[.pointer (some ⟨Hb, 0, none⟩), .iface 35 (.pointer (some ⟨E, 0, none⟩))] w fun e w' => ∃ v',
      e = .returned (.tuple #[]) ∧ w'.heap[Hb]? = some (.cells #[v'] 33 (0, 0)) ∧ w'.heap[E]? = some (.cells #[.slice none 0 0, .slice none 0 0, .bool true, .int .i64 n, .string s, .int .u64 x5] 41 (0, 0)) ∧
      w'.ownsRow B 35 1 v' (n + 1) (ptrs (pb ++ [E])) ∧ (∀ b, b < w.heap.size → b ≠ Hb → b ≠ E → b ≠ G → w'.heap[b]? = w.heap[b]?) ∧ Below B w w' := by
  obtain ⟨i0, hi, hz0, hz1, hz2⟩ := info_parts info35
  have hne : Hb ≠ E := by rintro rfl; rw [hH] at hE; simp at hE
  have c1 : w.cell? ⟨Hb, 0, none⟩ = some (.slice (some ⟨G, 0, none⟩) n cap) := cell_of_block hH
  have c2 : w.cell? ⟨E, 2, none⟩ = some (.bool x2) := cell_of_block hE
  have c3 : w.cell? ⟨E, 3, none⟩ = some (.int .i64 x3) := cell_of_block hE
  have f2 : w.frozen? ⟨E, 2, none⟩ = false := free_of_block hE
  have f3 : w.frozen? ⟨E, 3, none⟩ = false := free_of_block hE
  have hH' : Hid (w.heap[Hb]? = some (.cells #[.slice (some ⟨G, 0, none⟩) n cap] 33 (0, 0))) := hH
  have hE' : Hid (w.heap[E]? = some (.cells #[.slice none 0 0, .slice none 0 0, .bool x2, .int .i64 x3, .string s, .int .u64 x5] 41 (0, 0))) := hE
  clear hH hE
  have hGE : G ≠ E := owns_ne hown hE'.out (by decide)
  have hGH : G ≠ Hb := owns_ne hown hH'.out (by decide)
  have hHlt : Hb < w.heap.size := lt_of_block hH'.out
  have hElt : E < w.heap.size := lt_of_block hE'.out
  have hown2 : ((w.setCell ⟨E, 2, none⟩ (.bool true)).setCell ⟨E, 3, none⟩ (.int .i64 n)).ownsRow B 35 1 (.slice (some ⟨G, 0, none⟩) n cap) n (ptrs pb) :=
    ownsRow_setCell_other (ownsRow_setCell_other hown (by simpa [Value.ownBlock] using hGE) _) (by simpa [Value.ownBlock] using hGE) _
  have hGB : B ≤ G := (hown.lt G rfl).1
  go_enter Yba.func10, Yba.ntmps10
  go_wp2_with (at_builtin; refine wpList_append_own _ rfl (.tmp 20) (.tmp 22) 33 rfl B 35 i0 (.pointer none) 1 8 Yba.underlying33 hi hz0 hz1 hz2 rfl (by decide) _ n (ptrs pb) rfl (hown2.alloc _) ⟨w.heap.size, 0, none⟩ 1 1 [.pointer (some ⟨E, 0, none⟩)] rfl rfl (by intro t u ht; match t, ht with | 0, ht => simp at ht; subst ht; exact push_cell w E n _ _ _ 0 rfl) (by intro u hu; simp at hu; subst hu; rfl) (by unfold maxLen; omega) (by omega) (by simp; omega) ?_; intro v' w1 hown1 hgrow1 hx; clear hx; obtain ⟨g', cap', rfl⟩ := owns_shape hown1; have k1 : Hid (w1.heap[Hb]? = w.heap[Hb]?) := push_block hgrow1 Hb hHlt hne (Ne.symm hGH); have k2 : w1.cell? ⟨Hb, 0, none⟩ = some (.slice (some ⟨G, 0, none⟩) n cap) := cell_of_block (k1.out.trans hH'.out); have k3 : w1.frozen? ⟨Hb, 0, none⟩ = false := free_of_block (k1.out.trans hH'.out))
  go_end0
  have q1 := k1.out.trans hH'.out
  have hgb : g' ≠ Hb := owns_ne hown1 q1 (by decide)
  refine ⟨_, rfl, one_setCell q1, ?_, ?_, ?_, ?_⟩
  · rw [Below.heap_setCell _ _ _ _ (by simpa using Ne.symm hne)]
    exact push_en hgrow1 hE'.out hGE
  · rw [ptrs_snoc]
    exact ownsRow_setCell_other hown1 (by simpa [Value.ownBlock] using hgb) _
  · intro b hb h1 h2 h3
    rw [Below.heap_setCell _ _ _ _ (by simpa using h1)]
    exact push_block hgrow1 b hb h2 h3
  · exact (push_below hgrow1 hBs hEB hGB).setCell (by exact hHB) _

end Go.Proofs.Ybulkkpq.rest

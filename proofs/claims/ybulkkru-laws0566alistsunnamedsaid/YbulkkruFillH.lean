import Derived.Test.YbulkkruHold
namespace Go.Proofs.Ybulkkru.cst
open Go.RowKit Go.Proofs Go.Proofs.Ybulkkru.net
set_option linter.unusedVariables false

theorem field40 (h a b c d e : Int) (w : World) : (Instr.field 40 (.agg #[.int .i64 h, .int .i64 a, .int .i64 b, .int .i64 c, .int .i64 d, .int .i64 e]) 0).run Yba.prog w = .ok (.int .i64 h) w := by kernel_rfl
attribute [local go_sem] field40

theorem frozen_keep {w w' : World} {a : Addr} {v : Value} (hb : Below w.heap.size w w') (h : w.cell? a = some v) (hf : w.frozen? a = false) : w'.frozen? a = false := by
  rw [← hf]
  exact World.frozen?_of_block (w := w) (hb.block _ (World.block_lt_of_cell? w a h))

theorem fillS {w w' : World} {a b c d : Addr} {x y z t : Value} (hb : Below w.heap.size w w') (ha : w.cell? a = some x) (hc : w.cell? b = some y) (hd : w.cell? c = some z) (he : w.cell? d = some t) :
    w'.cell? a = some x ∧ w'.cell? b = some y ∧ w'.cell? c = some z ∧ w'.cell? d = some t := ⟨cell_keeps hb ha, cell_keeps hb hc, cell_keeps hb hd, cell_keeps hb he⟩
theorem fillT {w : World} {A1 A2 A3 A4 i1 i2 i3 i4 : Nat} {x y z t : Value} {B : Nat} (h : w.cell? ⟨A1, i1, none⟩ = some x ∧ w.cell? ⟨A2, i2, none⟩ = some y ∧ w.cell? ⟨A3, i3, none⟩ = some z ∧ w.cell? ⟨A4, i4, none⟩ = some t) (ha : A1 ≠ B) (hc : A2 ≠ B) (hd : A3 ≠ B) (he : A4 ≠ B) (u v : Value) (i j : Nat) :
    ((w.setCell ⟨B, i, none⟩ u).setCell ⟨B, j, none⟩ v).cell? ⟨A1, i1, none⟩ = some x ∧ ((w.setCell ⟨B, i, none⟩ u).setCell ⟨B, j, none⟩ v).cell? ⟨A2, i2, none⟩ = some y ∧ ((w.setCell ⟨B, i, none⟩ u).setCell ⟨B, j, none⟩ v).cell? ⟨A3, i3, none⟩ = some z ∧ ((w.setCell ⟨B, i, none⟩ u).setCell ⟨B, j, none⟩ v).cell? ⟨A4, i4, none⟩ = some t := by
  have e : ∀ (k A i : Nat), A ≠ B → (⟨B, k, none⟩ : Addr) ≠ ⟨A, i, none⟩ := fun k A i hq e => hq (by injection e with e; exact e.symm)
  refine ⟨?_, ?_, ?_, ?_⟩
  · rw [World.cell?_setCell_other _ _ _ _ (e _ _ _ ha), World.cell?_setCell_other _ _ _ _ (e _ _ _ ha)]; exact h.1
  · rw [World.cell?_setCell_other _ _ _ _ (e _ _ _ hc), World.cell?_setCell_other _ _ _ _ (e _ _ _ hc)]; exact h.2.1
  · rw [World.cell?_setCell_other _ _ _ _ (e _ _ _ hd), World.cell?_setCell_other _ _ _ _ (e _ _ _ hd)]; exact h.2.2.1
  · rw [World.cell?_setCell_other _ _ _ _ (e _ _ _ he), World.cell?_setCell_other _ _ _ _ (e _ _ _ he)]; exact h.2.2.2

set_option maxHeartbeats 2000000 in
set_option maxRecDepth 100000 in
theorem fill_any (N mb H Bk nB bn c cc : Nat) (po : Option Addr) (t held o a l : Int) (w : World) (h3 : w.cell? ⟨N, 3, none⟩ = some (.map (some mb))) (h1 : w.cell? ⟨N, 1, none⟩ = some (.slice (some ⟨Bk, 0, none⟩) nB nB)) (hbn : bn < nB) (hnB : nB ≤ 8) (hc : c ≤ 3)
    (hp : w.cell? ⟨Bk, bn * 13 + 3, none⟩ = some (.slice po c cc))
    (hl : ∀ w', Below w.heap.size w w' → (Instr.lookup 33 (.map (some mb)) (.agg #[.int .i32 t, .int .i32 bn]) false).run Yba.prog w' = .ok (.pointer (some ⟨H, 0, none⟩)) w') (hH : HoldAt w H held o a l) :
    Calls Yba.prog 43 #[.pointer (some ⟨N, 0, none⟩), .agg #[.int .u8 3, .int .i32 t, .int .i32 bn], .bool false] w fun e w' => e = .returned (.agg #[.int .i32 (IntKind.i32.wrap held), .int .i32 c]) ∧ Below w.heap.size w w' := by
  have HL : Hid _ := hl
  have HH : Hid _ := hH
  have H3 : Hid _ := h3
  have H1 : Hid _ := h1
  have HP : Hid _ := hp
  have k0 : (0 : Int) ≤ (bn : Int) := by omega
  have k1 : (bn : Int) < (nB : Int) := by omega
  have k2 : IntKind.i32.wrap (c : Int) = c := by rw [IntKind.wrap_i32]; omega
  clear hl hH h3 h1 hp
  go_enter Yba.func43, Yba.ntmps43
  go_upto_region 3 with (fail)
  have hb : Below w.heap.size w ((w.alloc (.cells #[.int .u8 3, .int .i32 t, .int .i32 bn] 66)).alloc (.cells #[.int .i32 0, .int .i32 0] 74)) := ((Below.refl _ _).alloc (Nat.le_refl _) _).alloc (by simp) _
  have hn : ((w.alloc (.cells #[.int .u8 3, .int .i32 t, .int .i32 bn] 66)).alloc (.cells #[.int .i32 0, .int .i32 0] 74)).heap[w.heap.size]? = some (.cells #[.int .u8 3, .int .i32 t, .int .i32 bn] 66 (0, 0)) := (Below.heap_alloc _ _ _ (by simp)).trans (heap_alloc_new _ _)
  have hr : ((w.alloc (.cells #[.int .u8 3, .int .i32 t, .int .i32 bn] 66)).alloc (.cells #[.int .i32 0, .int .i32 0] 74)).heap[w.heap.size + 1]? = some (.cells #[.int .i32 0, .int .i32 0] 74 (0, 0)) := by
    have := heap_alloc_new (w.alloc (.cells #[.int .u8 3, .int .i32 t, .int .i32 bn] 66)) (.cells #[.int .i32 0, .int .i32 0] 74)
    simpa using this
  generalize (w.alloc (.cells #[.int .u8 3, .int .i32 t, .int .i32 bn] 66)).alloc (.cells #[.int .i32 0, .int .i32 0] 74) = w1 at hb hn hr ⊢
  have h3 := cell_keeps hb H3.out
  have h1 := cell_keeps hb H1.out
  have hp := cell_keeps hb HP.out
  have hlN : N < w.heap.size := World.block_lt_of_cell? _ _ H1.out
  have hlB : Bk < w.heap.size := World.block_lt_of_cell? _ _ HP.out
  have E1 : Hid (w.heap.size ≠ w.heap.size + 1) := show _ ≠ _ by omega
  have E2 : Hid (N ≠ w.heap.size + 1) := show _ ≠ _ by omega
  have E3 : Hid (Bk ≠ w.heap.size + 1) := show _ ≠ _ by omega
  have n1 : w1.cell? ⟨w.heap.size, 1, none⟩ = some (.int .i32 t) := by simp [World.cell?, hn]
  have n2 : w1.cell? ⟨w.heap.size, 2, none⟩ = some (.int .i32 bn) := by simp [World.cell?, hn]
  have r0 : w1.cell? ⟨w.heap.size + 1, 0, none⟩ = some (.int .i32 0) := by simp [World.cell?, hr]
  have r1 : w1.cell? ⟨w.heap.size + 1, 1, none⟩ = some (.int .i32 0) := by simp [World.cell?, hr]
  have g0 : w1.frozen? ⟨w.heap.size + 1, 0, none⟩ = false := by simp [World.frozen?, hr]
  have g1 : w1.frozen? ⟨w.heap.size + 1, 1, none⟩ = false := by simp [World.frozen?, hr]
  have HB : Hid (Below w.heap.size w w1) := hb
  have hcall : ∀ w2, Below w1.heap.size w1 w2 → Calls Yba.prog 63 #[.pointer (some ⟨N, 0, none⟩), .int .i32 t, .int .i32 bn] w2 fun e w' => e = .returned (.agg #[.int .i64 held, .int .i64 0, .int .i64 0, .int .i64 o, .int .i64 a, .int .i64 l]) ∧ Below w2.heap.size w2 w' := fun w2 h12 =>
    holdingAt_any N mb H t bn held o a l w2 (cell_keeps h12 h3) (fun w' hw' => HL.out w' ((HB.out.trans (h12.mono HB.out.size)).trans (hw'.mono (Nat.le_trans HB.out.size h12.size)))) (HH.out.keep (HB.out.trans (h12.mono HB.out.size)))
  have HC : Hid _ := hcall
  clear hb hn hr hcall h3
  go_wp2_with fail
  go_region_held3 (fun w' => w'.cell? ⟨w.heap.size, 1, none⟩ = some (.int .i32 t) ∧ w'.cell? ⟨w.heap.size, 2, none⟩ = some (.int .i32 bn) ∧ w'.cell? ⟨N, 1, none⟩ = some (.slice (some ⟨Bk, 0, none⟩) nB nB) ∧ w'.cell? ⟨Bk, bn * 13 + 3, none⟩ = some (.slice po c cc))
    (first | with_reducible exact fillS ((Below.refl _ _).drew) n1 n2 h1 hp | with_reducible exact fillS hb2 n1 n2 h1 hp | with_reducible exact fillT (fillS hb2 n1 n2 h1 hp) E1.out E1.out E2.out E3.out _ _ _ _)
    (first | (go_at_call 63; refine (HC.out _ ((Below.refl _ _).drew)).mono ?_; rintro e w2 ⟨rfl, hb1⟩; have hb2 : Below w1.heap.size w1 w2 := (Below.refl _ _).drew.trans hb1; have q0 := cell_keeps hb2 r0; have q1 := cell_keeps hb2 r1; have f0 := frozen_keep hb2 r0 g0; have f1 := frozen_keep hb2 r1 g1))
  go_wp2
  refine bodyPost_ret (v := .agg #[.int .i32 (IntKind.i32.wrap held), .int .i32 c]) (by simp [results, Yba.results43, go_sem, *]) rfl ⟨rfl, ?_⟩
  exact ((HB.out.trans (hb2.mono HB.out.size)).setCell (Nat.le_succ _) _).setCell (Nat.le_succ _) _
end Go.Proofs.Ybulkkru.cst

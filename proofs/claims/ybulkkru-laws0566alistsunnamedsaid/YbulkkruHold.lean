import Derived.Test.YbulkkruMap
import Derived.Deep.DeepCutAuto
namespace Go.Proofs.Ybulkkru.cst
open Go.RowKit Go.Proofs Go.Proofs.Ybulkkru.net
set_option linter.unusedVariables false

/-- A holding in memory. -/
structure HoldAt (w : World) (H : Nat) (held o a l : Int) : Prop where
  c0 : w.cell? ⟨H, 0, none⟩ = some (.int .i64 held)
  c1 : w.cell? ⟨H, 1, none⟩ = some (.int .i64 0)
  c2 : w.cell? ⟨H, 2, none⟩ = some (.int .i64 0)
  c3 : w.cell? ⟨H, 3, none⟩ = some (.int .i64 o)
  c4 : w.cell? ⟨H, 4, none⟩ = some (.int .i64 a)
  c5 : w.cell? ⟨H, 5, none⟩ = some (.int .i64 l)
theorem HoldAt.keep {w w' : World} {H : Nat} {held o a l : Int} (h : HoldAt w H held o a l) (hb : Below w.heap.size w w') : HoldAt w' H held o a l :=
  ⟨cell_keeps hb h.c0, cell_keeps hb h.c1, cell_keeps hb h.c2, cell_keeps hb h.c3, cell_keeps hb h.c4, cell_keeps hb h.c5⟩

theorem neq38 (a : Addr) (w : World) : (binOp .neq 38 (.pointer (some a)) (.pointer none)).run Yba.prog w = .ok (.bool true) w := by
  go_simp

set_option maxHeartbeats 2000000 in
set_option maxRecDepth 100000 in
theorem holdingAt_any (N mb H : Nat) (t b held o a l : Int) (w : World) (h3 : w.cell? ⟨N, 3, none⟩ = some (.map (some mb)))
    (hl : ∀ w', Below w.heap.size w w' → (Instr.lookup 33 (.map (some mb)) (.agg #[.int .i32 t, .int .i32 b]) false).run Yba.prog w' = .ok (.pointer (some ⟨H, 0, none⟩)) w') (hH : HoldAt w H held o a l) :
    Calls Yba.prog 63 #[.pointer (some ⟨N, 0, none⟩), .int .i32 t, .int .i32 b] w fun e w' => e = .returned (.agg #[.int .i64 held, .int .i64 0, .int .i64 0, .int .i64 o, .int .i64 a, .int .i64 l]) ∧ Below w.heap.size w w' := by
  have HL : Hid _ := hl
  have HH : Hid _ := hH
  have H3 : Hid _ := h3
  clear hl hH h3
  go_enter Yba.func63, Yba.ntmps63
  go_upto_region 1 with (fail)
  have hb : Below w.heap.size w (w.alloc (.cells #[.int .i64 0, .int .i64 0, .int .i64 0, .int .i64 0, .int .i64 0, .int .i64 0] 40)) := (Below.refl _ _).alloc (Nat.le_refl _) _
  have hr : (w.alloc (.cells #[.int .i64 0, .int .i64 0, .int .i64 0, .int .i64 0, .int .i64 0, .int .i64 0] 40)).heap[w.heap.size]? = some (.cells #[.int .i64 0, .int .i64 0, .int .i64 0, .int .i64 0, .int .i64 0, .int .i64 0] 40 (0, 0)) := heap_alloc_new _ _
  generalize w.alloc (.cells #[.int .i64 0, .int .i64 0, .int .i64 0, .int .i64 0, .int .i64 0, .int .i64 0] 40) = w1 at hb hr ⊢
  have h3 := cell_keeps hb H3.out
  have hl := HL.out w1 hb
  obtain ⟨c0, c1, c2, c3, c4, c5⟩ := HH.out.keep hb
  have hz := lt_of_block hr
  have r0 : w1.cell? ⟨w.heap.size, 0, none⟩ = some (.int .i64 0) := by simp [World.cell?, hr]
  have r1 : w1.cell? ⟨w.heap.size, 1, none⟩ = some (.int .i64 0) := by simp [World.cell?, hr]
  have r2 : w1.cell? ⟨w.heap.size, 2, none⟩ = some (.int .i64 0) := by simp [World.cell?, hr]
  have r3 : w1.cell? ⟨w.heap.size, 3, none⟩ = some (.int .i64 0) := by simp [World.cell?, hr]
  have r4 : w1.cell? ⟨w.heap.size, 4, none⟩ = some (.int .i64 0) := by simp [World.cell?, hr]
  have r5 : w1.cell? ⟨w.heap.size, 5, none⟩ = some (.int .i64 0) := by simp [World.cell?, hr]
  have g0 : w1.frozen? ⟨w.heap.size, 0, none⟩ = false := by simp [World.frozen?, hr]
  have g1 : w1.frozen? ⟨w.heap.size, 1, none⟩ = false := by simp [World.frozen?, hr]
  have g2 : w1.frozen? ⟨w.heap.size, 2, none⟩ = false := by simp [World.frozen?, hr]
  have g3 : w1.frozen? ⟨w.heap.size, 3, none⟩ = false := by simp [World.frozen?, hr]
  have g4 : w1.frozen? ⟨w.heap.size, 4, none⟩ = false := by simp [World.frozen?, hr]
  have g5 : w1.frozen? ⟨w.heap.size, 5, none⟩ = false := by simp [World.frozen?, hr]
  clear hr
  go_wp2
  refine bodyPost_ret (v := .agg #[.int .i64 held, .int .i64 0, .int .i64 0, .int .i64 o, .int .i64 a, .int .i64 l]) (by simp [results, Yba.results63, go_sem, *]) rfl ⟨rfl, ?_⟩
  exact (((((hb.setCell (Nat.le_refl _) _).setCell (Nat.le_refl _) _).setCell (Nat.le_refl _) _).setCell (Nat.le_refl _) _).setCell (Nat.le_refl _) _).setCell (Nat.le_refl _) _
end Go.Proofs.Ybulkkru.cst

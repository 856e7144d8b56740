import Derived.Test.YbulkkruRaise
import Derived.Deep.DeepCutAuto
namespace Go.Proofs.Ybulkkru.cst
open Go.RowKit Go.Proofs.Ybulkkru.net
set_option linter.unusedVariables false
attribute [local go_sem] neqNil57 neqSome57 neqNil53

set_option maxHeartbeats 2000000 in
set_option maxRecDepth 100000 in
theorem potential_any (N Qb k bi : Nat) (x p0 p1 p2 : Int) (w : World) (hq : w.cell? ⟨N, 21, none⟩ = some (.slice (some ⟨Qb, 0, none⟩) (k + 2) (k + 2)))
    (h0 : w.cell? ⟨Qb, (2 + bi) * 3, none⟩ = some (.int .i64 p0)) (h1 : w.cell? ⟨Qb, (2 + bi) * 3 + 1, none⟩ = some (.int .i64 p1)) (h2 : w.cell? ⟨Qb, (2 + bi) * 3 + 2, none⟩ = some (.int .i64 p2)) (hbi : bi < k) (hk : k ≤ 100) :
    Calls Yba.prog 41 #[.pointer (some ⟨N, 0, none⟩), .agg #[.int .u8 2, .int .i32 bi, .int .i32 x]] w fun e w' => e = .returned (.agg #[.int .i64 p0, .int .i64 p1, .int .i64 p2]) ∧ Below w.heap.size w w' := by
  have a0 : (0 : Int) ≤ 2 + (bi : Int) := by omega
  have a1 : 2 + (bi : Int) < ((k + 2 : Nat) : Int) := by omega
  go_enter Yba.func41, Yba.ntmps41
  go_wp2
  generalize hw2 : (w.alloc (.cells #[.int .u8 2, .int .i32 bi, .int .i32 x] 66)).alloc (.cells #[.int .i64 0, .int .i64 0, .int .i64 0] 28) = w2
  have F : w2.heap[w.heap.size]? = some (.cells #[.int .u8 2, .int .i32 bi, .int .i32 x] 66 (0, 0)) ∧ w2.heap[w.heap.size + 1]? = some (.cells #[.int .i64 0, .int .i64 0, .int .i64 0] 28 (0, 0)) ∧ Below w.heap.size w w2 := by
    subst hw2
    refine ⟨(Below.heap_alloc _ _ _ (by simp)).trans (heap_alloc_new _ _), ?_, ((Below.refl _ _).alloc (Nat.le_refl _) _).alloc (by simp) _⟩
    have := heap_alloc_new (w.alloc (.cells #[.int .u8 2, .int .i32 bi, .int .i32 x] 66)) (.cells #[.int .i64 0, .int .i64 0, .int .i64 0] 28)
    simpa using this
  clear hw2
  obtain ⟨F1, F2, hb2⟩ := F
  obtain ⟨n0, n1, n2, _, _, _⟩ := res3 F1
  have c0 := cell_keeps hb2 hq
  have c1 := cell_keeps hb2 h0
  have c2 := cell_keeps hb2 h1
  have c3 := cell_keeps hb2 h2
  have HF2 : Hid _ := F2
  have hlt2 := lt_of_block F2
  clear F1 F2
  first | go_region_with (go_at_call 64; refine (index_any bi x _ (by omega)).mono ?_; rintro e w' ⟨rfl, hb⟩; have q0 := cell_keeps hb (show w2.drew.cell? _ = _ from c0); have q1 := cell_keeps hb (show w2.drew.cell? _ = _ from c1); have q2 := cell_keeps hb (show w2.drew.cell? _ = _ from c2); have q3 := cell_keeps hb (show w2.drew.cell? _ = _ from c3); have hr := res3 ((hb.block (w.heap.size + 1) hlt2).trans HF2.out); obtain ⟨r0, r1, r2, g0, g1, g2⟩ := hr) | fail
  all_goals
    go_wp2
    refine bodyPost_ret (v := .agg #[.int .i64 p0, .int .i64 p1, .int .i64 p2]) (by simp [results, Yba.results41, go_sem, r0, r1, r2]) rfl ⟨rfl, ?_⟩
    have hbw : Below w.heap.size w w' := hb2.drew.trans (hb.mono hb2.size)
    exact ((hbw.setCell (by simp) _).setCell (by simp) _).setCell (by simp) _

/-- A broker's untracked cost turned: what stays, what turns. -/
structure Turned (w w' : World) (Rb o : Nat) (x y z : Int) : Prop where
  at0 : w'.cell? ⟨Rb, o, none⟩ = some (.int .i64 x)
  at1 : w'.cell? ⟨Rb, o + 1, none⟩ = some (.int .i64 y)
  at2 : w'.cell? ⟨Rb, o + 2, none⟩ = some (.int .i64 z)
  other : ∀ a v, w.cell? a = some v → (a.block ≠ Rb ∨ a.off < o ∨ o + 2 < a.off) → w'.cell? a = some v
  below : ∀ B, B ≤ Rb → B ≤ w.heap.size → Below B w w'

theorem Turned.of_below {w w' : World} {Rb o : Nat} {x y z : Int} (hb : Below w.heap.size w w') (h0 : w.cell? ⟨Rb, o, none⟩ = some (.int .i64 x)) (h1 : w.cell? ⟨Rb, o + 1, none⟩ = some (.int .i64 y)) (h2 : w.cell? ⟨Rb, o + 2, none⟩ = some (.int .i64 z)) : Turned w w' Rb o x y z :=
  ⟨cell_keeps hb h0, cell_keeps hb h1, cell_keeps hb h2, fun _ _ h _ => cell_keeps hb h, fun B _ hB => hb.mono hB⟩

theorem Turned.of_store {w w1 : World} {Rb o : Nat} {x y z u0 u1 u2 : Int} (hb : Below w.heap.size w w1) (h0 : w.cell? ⟨Rb, o, none⟩ = some (.int .i64 u0)) (h1 : w.cell? ⟨Rb, o + 1, none⟩ = some (.int .i64 u1)) (h2 : w.cell? ⟨Rb, o + 2, none⟩ = some (.int .i64 u2)) :
    Turned w (((w1.setCell ⟨Rb, o, none⟩ (.int .i64 x)).setCell ⟨Rb, o + 1, none⟩ (.int .i64 y)).setCell ⟨Rb, o + 2, none⟩ (.int .i64 z)) Rb o x y z := by
  have k0 := cell_keeps hb h0
  have k1 := cell_keeps hb h1
  have k2 := cell_keeps hb h2
  have ne : ∀ (w : World) (i j : Nat) (v : Value), i ≠ j → (w.setCell ⟨Rb, i, none⟩ v).cell? ⟨Rb, j, none⟩ = w.cell? ⟨Rb, j, none⟩ := by
    intro w i j v h
    apply World.cell?_setCell_other
    intro e
    injection e with _ e
    exact h e
  have sm : ∀ (w : World) (a : Addr) (u v : Value), w.cell? a = some u → (w.setCell a v).cell? a = some v := by
    intro w a u v h
    apply World.cell?_setCell_same
    exact h
  refine ⟨?_, ?_, ?_, ?_, ?_⟩
  · rw [ne _ _ _ _ (by omega), ne _ _ _ _ (by omega)]; exact sm _ _ _ _ k0
  · rw [ne _ _ _ _ (by omega)]; exact sm _ _ (.int .i64 u1) _ (by rw [ne _ _ _ _ (by omega)]; exact k1)
  · exact sm _ _ (.int .i64 u2) _ (by rw [ne _ _ _ _ (by omega), ne _ _ _ _ (by omega)]; exact k2)
  · intro a v h hne
    have ka := cell_keeps hb h
    have ot : ∀ (w : World) (i : Nat) (u : Value), (a.block ≠ Rb ∨ a.off ≠ i) → (w.setCell ⟨Rb, i, none⟩ u).cell? a = w.cell? a := by
      intro w i u h
      apply World.cell?_setCell_other
      rintro rfl
      rcases h with h | h <;> exact h rfl
    rw [ot _ _ _ (by omega), ot _ _ _ (by omega), ot _ _ _ (by omega)]
    exact ka
  · intro B hB hw
    exact (((hb.mono hw).setCell hB _).setCell hB _).setCell hB _

end Go.Proofs.Ybulkkru.cst

import Derived.Test.YbulkkruCost
namespace Go.Proofs.Ybulkkru.cst
open Go.RowKit Go.Proofs.Ybulkkru.net
set_option linter.unusedVariables false

/-- What 'raise' answers at nothing within [0, c]. -/
def rc (c : Int) : Int := match decide (0 < c) with | true => 0 | false => wrap64 (wrap64 (-c) + 1)
def rok (c : Int) (past : Bool) : Bool := match decide (0 < c) with | true => true | false => past

set_option maxHeartbeats 2000000 in
set_option maxRecDepth 100000 in
theorem raise_any (N : Nat) (c : Int) (past : Bool) (w : World) (hp : w.cell? ⟨N, 14, none⟩ = some (.bool past)) :
    Calls Yba.prog 62 #[.pointer (some ⟨N, 0, none⟩), .int .i64 0, .agg #[.int .i64 0, .int .i64 c]] w fun e w' =>
      e = .returned (.tuple #[.agg #[.int .i64 (rc c), .int .i64 0, .int .i64 0], .bool (rok c past)]) ∧ Below w.heap.size w w' := by
  have hN : N < w.heap.size := World.block_lt_of_cell? _ _ hp
  by_cases h : 0 < c
  · have HR : Hid (rc c = 0 ∧ rok c past = true) := show _ ∧ _ by simp [rc, rok, h]
    go_enter Yba.func62, Yba.ntmps62
    go_wp2
    refine bodyPost_ret (v := .tuple #[.agg #[.int .i64 0, .int .i64 0, .int .i64 0], .bool true]) (by simp [results, Yba.results62, go_sem]) rfl ⟨by rw [HR.out.1, HR.out.2], ?_⟩
    exact ((Below.refl _ _).alloc (Nat.le_refl _) _).alloc (by simp) _
  · have HR : Hid (rc c = wrap64 (wrap64 (-c) + 1) ∧ rok c past = past) := show _ ∧ _ by simp [rc, rok, h]
    go_enter Yba.func62, Yba.ntmps62
    go_wp2
    go_region
    all_goals
      go_wp2
      refine bodyPost_ret (v := .tuple #[.agg #[.int .i64 (wrap64 (wrap64 (-c) + 1)), .int .i64 0, .int .i64 0], .bool past]) (by simp [results, Yba.results62, go_sem]) rfl ⟨by rw [HR.out.1, HR.out.2], ?_⟩
      exact (((Below.refl _ _).alloc (Nat.le_refl _) _).alloc (by simp) _).drew

theorem res3 {w : World} {b : Nat} {x y z : Value} {t : TypeId} (h : w.heap[b]? = some (.cells #[x, y, z] t (0, 0))) :
    w.cell? ⟨b, 0, none⟩ = some x ∧ w.cell? ⟨b, 1, none⟩ = some y ∧ w.cell? ⟨b, 2, none⟩ = some z ∧ w.frozen? ⟨b, 0, none⟩ = false ∧ w.frozen? ⟨b, 1, none⟩ = false ∧ w.frozen? ⟨b, 2, none⟩ = false := by
  simp [World.cell?, World.frozen?, h]
theorem neqNil57 (w : World) : (binOp .neq 57 (.slice none 0 0) (.slice none 0 0)).run Yba.prog w = .ok (.bool false) w := by kernel_rfl
theorem neqSome57 (w : World) (a : Addr) (n m : Nat) : (binOp .neq 57 (.slice (some a) n m) (.slice none 0 0)).run Yba.prog w = .ok (.bool true) w := by kernel_rfl
theorem neqNil53 (w : World) : (binOp .neq 53 (.slice none 0 0) (.slice none 0 0)).run Yba.prog w = .ok (.bool false) w := by kernel_rfl
attribute [local go_sem] neqNil57 neqSome57 neqNil53

set_option maxHeartbeats 2000000 in
set_option maxRecDepth 100000 in
theorem untr_nil (N bi : Nat) (past : Bool) (w : World) (hp : w.cell? ⟨N, 14, none⟩ = some (.bool past)) (h11 : w.cell? ⟨N, 11, none⟩ = some (.slice none 0 0)) :
    Calls Yba.prog 39 #[.pointer (some ⟨N, 0, none⟩), .int .i32 bi] w fun e w' =>
      e = .returned (.tuple #[.agg #[.int .i64 (rc 1), .int .i64 0, .int .i64 0], .bool (rok 1 past)]) ∧ Below w.heap.size w w' := by
  have hN : N < w.heap.size := World.block_lt_of_cell? _ _ hp
  go_enter Yba.func39, Yba.ntmps39
  go_wp2_with fail
  refine (raise_any N 1 past _ (by exact cell_keeps (((Below.refl _ _).alloc (Nat.le_refl _) _).alloc (by simp) _) hp)).mono ?_
  rintro e w1 ⟨rfl, hb1⟩
  have hB : Hid (w1.heap[w.heap.size]? = some (.cells #[.int .i64 0, .int .i64 0, .int .i64 0] 28 (0, 0))) :=
    (hb1.block _ (by simp; omega)).trans ((Below.heap_alloc _ _ _ (by simp)).trans (heap_alloc_new _ _))
  have hbw : Below w.heap.size w w1 := (((Below.refl _ _).alloc (Nat.le_refl _) _).alloc (by simp) _).trans (hb1.mono (by simp; omega))
  obtain ⟨r0, r1, r2, g0, g1, g2⟩ := res3 hB.out
  clear hb1
  go_wp2
  refine bodyPost_ret (v := .tuple #[.agg #[.int .i64 (rc 1), .int .i64 0, .int .i64 0], .bool (rok 1 past)]) (by simp [results, Yba.results39, go_sem, r0, r1, r2]) rfl ⟨rfl, ?_⟩
  exact ((hbw.setCell (Nat.le_refl _) _).setCell (Nat.le_refl _) _).setCell (Nat.le_refl _) _

set_option maxHeartbeats 2000000 in
set_option maxRecDepth 100000 in
theorem untr_low (N Cb k bi : Nat) (c : Int) (past : Bool) (w : World) (hp : w.cell? ⟨N, 14, none⟩ = some (.bool past)) (h11 : w.cell? ⟨N, 11, none⟩ = some (.slice (some ⟨Cb, 0, none⟩) k k)) (hc : w.cell? ⟨Cb, bi, none⟩ = some (.int .i64 c)) (hbi : bi < k) (hk : k ≤ 100) (hl : c < 1) :
    Calls Yba.prog 39 #[.pointer (some ⟨N, 0, none⟩), .int .i32 bi] w fun e w' =>
      e = .returned (.tuple #[.agg #[.int .i64 (rc c), .int .i64 0, .int .i64 0], .bool (rok c past)]) ∧ Below w.heap.size w w' := by
  have hN : N < w.heap.size := World.block_lt_of_cell? _ _ hp
  have hCb : Cb < w.heap.size := World.block_lt_of_cell? _ _ hc
  have b0 : (0 : Int) ≤ (bi : Int) := by omega
  have b1 : (bi : Int) < (k : Int) := by omega
  go_enter Yba.func39, Yba.ntmps39
  go_wp2_with fail
  go_region
  all_goals
    go_wp2_with fail
    refine (raise_any N c past _ (by exact cell_keeps (((Below.refl _ _).alloc (Nat.le_refl _) _).alloc (by simp) _).drew hp)).mono ?_
    rintro e w1 ⟨rfl, hb1⟩
    have hB : Hid (w1.heap[w.heap.size]? = some (.cells #[.int .i64 0, .int .i64 0, .int .i64 0] 28 (0, 0))) :=
      (hb1.block _ (by show w.heap.size < ((w.alloc _).alloc _).heap.size; simp; omega)).trans ((Below.heap_alloc _ _ _ (by simp)).trans (heap_alloc_new _ _))
    have hbw : Below w.heap.size w w1 := (((Below.refl _ _).alloc (Nat.le_refl _) _).alloc (by simp) _).drew.trans (hb1.mono (by show w.heap.size ≤ ((w.alloc _).alloc _).heap.size; simp; omega))
    obtain ⟨r0, r1, r2, g0, g1, g2⟩ := res3 hB.out
    clear hb1
    go_wp2
    refine bodyPost_ret (v := .tuple #[.agg #[.int .i64 (rc c), .int .i64 0, .int .i64 0], .bool (rok c past)]) (by simp [results, Yba.results39, go_sem, r0, r1, r2]) rfl ⟨rfl, ?_⟩
    exact ((hbw.setCell (Nat.le_refl _) _).setCell (Nat.le_refl _) _).setCell (Nat.le_refl _) _

set_option maxHeartbeats 2000000 in
set_option maxRecDepth 100000 in
theorem untr_high (N Cb k bi : Nat) (c : Int) (past : Bool) (w : World) (hp : w.cell? ⟨N, 14, none⟩ = some (.bool past)) (h11 : w.cell? ⟨N, 11, none⟩ = some (.slice (some ⟨Cb, 0, none⟩) k k)) (hc : w.cell? ⟨Cb, bi, none⟩ = some (.int .i64 c)) (hbi : bi < k) (hk : k ≤ 100) (hl : 1 ≤ c) :
    Calls Yba.prog 39 #[.pointer (some ⟨N, 0, none⟩), .int .i32 bi] w fun e w' =>
      e = .returned (.tuple #[.agg #[.int .i64 (rc 1), .int .i64 0, .int .i64 0], .bool (rok 1 past)]) ∧ Below w.heap.size w w' := by
  have hN : N < w.heap.size := World.block_lt_of_cell? _ _ hp
  have hCb : Cb < w.heap.size := World.block_lt_of_cell? _ _ hc
  have b0 : (0 : Int) ≤ (bi : Int) := by omega
  have b1 : (bi : Int) < (k : Int) := by omega
  go_enter Yba.func39, Yba.ntmps39
  go_wp2_with fail
  go_region
  all_goals
    go_wp2_with fail
    refine (raise_any N 1 past _ (by exact cell_keeps (((Below.refl _ _).alloc (Nat.le_refl _) _).alloc (by simp) _).drew hp)).mono ?_
    rintro e w1 ⟨rfl, hb1⟩
    have hB : Hid (w1.heap[w.heap.size]? = some (.cells #[.int .i64 0, .int .i64 0, .int .i64 0] 28 (0, 0))) :=
      (hb1.block _ (by show w.heap.size < ((w.alloc _).alloc _).heap.size; simp; omega)).trans ((Below.heap_alloc _ _ _ (by simp)).trans (heap_alloc_new _ _))
    have hbw : Below w.heap.size w w1 := (((Below.refl _ _).alloc (Nat.le_refl _) _).alloc (by simp) _).drew.trans (hb1.mono (by show w.heap.size ≤ ((w.alloc _).alloc _).heap.size; simp; omega))
    obtain ⟨r0, r1, r2, g0, g1, g2⟩ := res3 hB.out
    clear hb1
    go_wp2
    refine bodyPost_ret (v := .tuple #[.agg #[.int .i64 (rc 1), .int .i64 0, .int .i64 0], .bool (rok 1 past)]) (by simp [results, Yba.results39, go_sem, r0, r1, r2]) rfl ⟨rfl, ?_⟩
    exact ((hbw.setCell (Nat.le_refl _) _).setCell (Nat.le_refl _) _).setCell (Nat.le_refl _) _

/-- The place of a broker's node among the potentials. -/
theorem index_any (bi : Nat) (x : Int) (w : World) (hbi : bi ≤ 1000) :
    Calls Yba.prog 64 #[.agg #[.int .u8 2, .int .i32 bi, .int .i32 x]] w fun e w' => e = .returned (.int .i64 (2 + (bi : Int))) ∧ Below w.heap.size w w' := by
  go_enter Yba.func64, Yba.ntmps64
  go_wp2
  go_ret
  exact ⟨rfl, (Below.refl _ _).alloc (Nat.le_refl _) _⟩

end Go.Proofs.Ybulkkru.cst

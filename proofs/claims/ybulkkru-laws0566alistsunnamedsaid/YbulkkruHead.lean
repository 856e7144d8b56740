import Derived.Test.YbulkkruPush
namespace Go.Proofs.Ybulkkru.cst
open Go.RowKit Go.Proofs Go.Proofs.Ybulkkru.net
set_option linter.unusedVariables false

set_option maxHeartbeats 4000000 in
set_option maxRecDepth 100000 in
theorem head_none (S N R k pl : Nat) (e : Q) (w : World) (hk : k < 2) (s3 : w.cell? ⟨S, 3, none⟩ = some (.slice (some ⟨R, 0, none⟩) 2 2)) (rk : w.cell? ⟨R, k * 6, none⟩ = some (.int .u8 3)) (rp : w.cell? ⟨R, k * 6 + 4, none⟩ = some (.int .i32 pl)) (re : w.cell? ⟨R, k * 6 + 5, none⟩ = some (.int .i32 pl)) :
    Calls Yba.prog 28 #[.pointer (some ⟨S, 0, none⟩), .pointer (some ⟨N, 0, none⟩), .int .i32 k, .agg (encQ e).toArray] w fun r w' => r = .returned (.tuple #[.agg (encQ e).toArray, .bool false]) ∧ Below w.heap.size w w' := by
  obtain ⟨k0, a0, b0, lb, d0, d1, d2, rn, dp, f0, f1, ng, md⟩ := e
  simp only [encQ]
  have HS3 : Hid _ := s3
  have HRK : Hid _ := rk
  have HRP : Hid _ := rp
  have HRE : Hid _ := re
  have k0' : (0 : Int) ≤ (k : Int) := by omega
  have k1' : (k : Int) < 2 := by omega
  clear s3 rk rp re
  go_enter Yba.func28, Yba.ntmps28
  go_upto_region 1 with (fail)
  have hb1 : Below w.heap.size w ((w.alloc (.cells #[.int .u8 k0, .int .i32 a0, .int .i32 b0, .int .i32 lb, .int .i64 d0, .int .i64 d1, .int .i64 d2, .int .i32 rn, .int .i32 dp, .int .i32 f0, .int .i32 f1, .bool ng, .int .i8 md] 77)).alloc (.cells #[.int .u8 0, .int .i32 0, .int .i32 0, .int .i32 0, .int .i64 0, .int .i64 0, .int .i64 0, .int .i32 0, .int .i32 0, .int .i32 0, .int .i32 0, .bool false, .int .i8 0] 77)) := ((Below.refl _ _).alloc (Nat.le_refl _) _).alloc (by simp) _
  have hq1 : ((w.alloc (.cells #[.int .u8 k0, .int .i32 a0, .int .i32 b0, .int .i32 lb, .int .i64 d0, .int .i64 d1, .int .i64 d2, .int .i32 rn, .int .i32 dp, .int .i32 f0, .int .i32 f1, .bool ng, .int .i8 md] 77)).alloc (.cells #[.int .u8 0, .int .i32 0, .int .i32 0, .int .i32 0, .int .i64 0, .int .i64 0, .int .i64 0, .int .i32 0, .int .i32 0, .int .i32 0, .int .i32 0, .bool false, .int .i8 0] 77)).heap[w.heap.size]? = some (.cells #[.int .u8 k0, .int .i32 a0, .int .i32 b0, .int .i32 lb, .int .i64 d0, .int .i64 d1, .int .i64 d2, .int .i32 rn, .int .i32 dp, .int .i32 f0, .int .i32 f1, .bool ng, .int .i8 md] 77 (0, 0)) := (Below.heap_alloc _ _ _ (by simp)).trans (heap_alloc_new _ _)
  have hr1 : ((w.alloc (.cells #[.int .u8 k0, .int .i32 a0, .int .i32 b0, .int .i32 lb, .int .i64 d0, .int .i64 d1, .int .i64 d2, .int .i32 rn, .int .i32 dp, .int .i32 f0, .int .i32 f1, .bool ng, .int .i8 md] 77)).alloc (.cells #[.int .u8 0, .int .i32 0, .int .i32 0, .int .i32 0, .int .i64 0, .int .i64 0, .int .i64 0, .int .i32 0, .int .i32 0, .int .i32 0, .int .i32 0, .bool false, .int .i8 0] 77)).heap[w.heap.size + 1]? = some (.cells #[.int .u8 0, .int .i32 0, .int .i32 0, .int .i32 0, .int .i64 0, .int .i64 0, .int .i64 0, .int .i32 0, .int .i32 0, .int .i32 0, .int .i32 0, .bool false, .int .i8 0] 77 (0, 0)) := by
    have := heap_alloc_new (w.alloc (.cells #[.int .u8 k0, .int .i32 a0, .int .i32 b0, .int .i32 lb, .int .i64 d0, .int .i64 d1, .int .i64 d2, .int .i32 rn, .int .i32 dp, .int .i32 f0, .int .i32 f1, .bool ng, .int .i8 md] 77)) (.cells #[.int .u8 0, .int .i32 0, .int .i32 0, .int .i32 0, .int .i64 0, .int .i64 0, .int .i64 0, .int .i32 0, .int .i32 0, .int .i32 0, .int .i32 0, .bool false, .int .i8 0] 77)
    simpa using this
  generalize ((w.alloc (.cells #[.int .u8 k0, .int .i32 a0, .int .i32 b0, .int .i32 lb, .int .i64 d0, .int .i64 d1, .int .i64 d2, .int .i32 rn, .int .i32 dp, .int .i32 f0, .int .i32 f1, .bool ng, .int .i8 md] 77)).alloc (.cells #[.int .u8 0, .int .i32 0, .int .i32 0, .int .i32 0, .int .i64 0, .int .i64 0, .int .i64 0, .int .i32 0, .int .i32 0, .int .i32 0, .int .i32 0, .bool false, .int .i8 0] 77)) = w1 at hb1 hq1 hr1 ⊢
  have HB1 : Hid (Below w.heap.size w w1) := hb1
  have HQ1 : Hid _ := hq1
  have HR1 : Hid _ := hr1
  have s3 := cell_keeps hb1 HS3.out
  have rk := cell_keeps hb1 HRK.out
  have rp := cell_keeps hb1 HRP.out
  have re := cell_keeps hb1 HRE.out
  clear hb1 hq1 hr1
  go_wp2_with fail
  go_region_held3 (fun w' => w'.cell? ⟨R, k * 6 + 4, none⟩ = some (.int .i32 pl) ∧ w'.cell? ⟨R, k * 6 + 5, none⟩ = some (.int .i32 pl)) (exact ⟨rp, re⟩) (fail)
  have hb2 : Below w.heap.size w w1.drew := HB1.out.drew
  have hq2 : w1.drew.heap[w.heap.size]? = some (.cells #[.int .u8 k0, .int .i32 a0, .int .i32 b0, .int .i32 lb, .int .i64 d0, .int .i64 d1, .int .i64 d2, .int .i32 rn, .int .i32 dp, .int .i32 f0, .int .i32 f1, .bool ng, .int .i8 md] 77 (0, 0)) := HQ1.out
  have hr2 : w1.drew.heap[w.heap.size + 1]? = some (.cells #[.int .u8 0, .int .i32 0, .int .i32 0, .int .i32 0, .int .i64 0, .int .i64 0, .int .i64 0, .int .i32 0, .int .i32 0, .int .i32 0, .int .i32 0, .bool false, .int .i8 0] 77 (0, 0)) := HR1.out
  clear s3 rk rp re
  generalize w1.drew = w2 at hb2 hq2 hr2 ⊢
  have u0 : w2.cell? ⟨w.heap.size, 0, none⟩ = some (.int .u8 k0) := cellAt hq2 rfl
  have u1 : w2.cell? ⟨w.heap.size, 1, none⟩ = some (.int .i32 a0) := cellAt hq2 rfl
  have u2 : w2.cell? ⟨w.heap.size, 2, none⟩ = some (.int .i32 b0) := cellAt hq2 rfl
  have u3 : w2.cell? ⟨w.heap.size, 3, none⟩ = some (.int .i32 lb) := cellAt hq2 rfl
  have u4 : w2.cell? ⟨w.heap.size, 4, none⟩ = some (.int .i64 d0) := cellAt hq2 rfl
  have u5 : w2.cell? ⟨w.heap.size, 5, none⟩ = some (.int .i64 d1) := cellAt hq2 rfl
  have u6 : w2.cell? ⟨w.heap.size, 6, none⟩ = some (.int .i64 d2) := cellAt hq2 rfl
  have u7 : w2.cell? ⟨w.heap.size, 7, none⟩ = some (.int .i32 rn) := cellAt hq2 rfl
  have u8 : w2.cell? ⟨w.heap.size, 8, none⟩ = some (.int .i32 dp) := cellAt hq2 rfl
  have u9 : w2.cell? ⟨w.heap.size, 9, none⟩ = some (.int .i32 f0) := cellAt hq2 rfl
  have u10 : w2.cell? ⟨w.heap.size, 10, none⟩ = some (.int .i32 f1) := cellAt hq2 rfl
  have u11 : w2.cell? ⟨w.heap.size, 11, none⟩ = some (.bool ng) := cellAt hq2 rfl
  have u12 : w2.cell? ⟨w.heap.size, 12, none⟩ = some (.int .i8 md) := cellAt hq2 rfl
  have x0 : w2.cell? ⟨w.heap.size + 1, 0, none⟩ = some (.int .u8 0) := cellAt hr2 rfl
  have y0 : w2.frozen? ⟨w.heap.size + 1, 0, none⟩ = false := freeAt hr2
  have x1 : w2.cell? ⟨w.heap.size + 1, 1, none⟩ = some (.int .i32 0) := cellAt hr2 rfl
  have y1 : w2.frozen? ⟨w.heap.size + 1, 1, none⟩ = false := freeAt hr2
  have x2 : w2.cell? ⟨w.heap.size + 1, 2, none⟩ = some (.int .i32 0) := cellAt hr2 rfl
  have y2 : w2.frozen? ⟨w.heap.size + 1, 2, none⟩ = false := freeAt hr2
  have x3 : w2.cell? ⟨w.heap.size + 1, 3, none⟩ = some (.int .i32 0) := cellAt hr2 rfl
  have y3 : w2.frozen? ⟨w.heap.size + 1, 3, none⟩ = false := freeAt hr2
  have x4 : w2.cell? ⟨w.heap.size + 1, 4, none⟩ = some (.int .i64 0) := cellAt hr2 rfl
  have y4 : w2.frozen? ⟨w.heap.size + 1, 4, none⟩ = false := freeAt hr2
  have x5 : w2.cell? ⟨w.heap.size + 1, 5, none⟩ = some (.int .i64 0) := cellAt hr2 rfl
  have y5 : w2.frozen? ⟨w.heap.size + 1, 5, none⟩ = false := freeAt hr2
  have x6 : w2.cell? ⟨w.heap.size + 1, 6, none⟩ = some (.int .i64 0) := cellAt hr2 rfl
  have y6 : w2.frozen? ⟨w.heap.size + 1, 6, none⟩ = false := freeAt hr2
  have x7 : w2.cell? ⟨w.heap.size + 1, 7, none⟩ = some (.int .i32 0) := cellAt hr2 rfl
  have y7 : w2.frozen? ⟨w.heap.size + 1, 7, none⟩ = false := freeAt hr2
  have x8 : w2.cell? ⟨w.heap.size + 1, 8, none⟩ = some (.int .i32 0) := cellAt hr2 rfl
  have y8 : w2.frozen? ⟨w.heap.size + 1, 8, none⟩ = false := freeAt hr2
  have x9 : w2.cell? ⟨w.heap.size + 1, 9, none⟩ = some (.int .i32 0) := cellAt hr2 rfl
  have y9 : w2.frozen? ⟨w.heap.size + 1, 9, none⟩ = false := freeAt hr2
  have x10 : w2.cell? ⟨w.heap.size + 1, 10, none⟩ = some (.int .i32 0) := cellAt hr2 rfl
  have y10 : w2.frozen? ⟨w.heap.size + 1, 10, none⟩ = false := freeAt hr2
  have x11 : w2.cell? ⟨w.heap.size + 1, 11, none⟩ = some (.bool false) := cellAt hr2 rfl
  have y11 : w2.frozen? ⟨w.heap.size + 1, 11, none⟩ = false := freeAt hr2
  have x12 : w2.cell? ⟨w.heap.size + 1, 12, none⟩ = some (.int .i8 0) := cellAt hr2 rfl
  have y12 : w2.frozen? ⟨w.heap.size + 1, 12, none⟩ = false := freeAt hr2
  have HB2 : Hid _ := hb2
  clear hb2 hq2 hr2
  go_wp2
  refine bodyPost_ret (v := .tuple #[.agg #[.int .u8 k0, .int .i32 a0, .int .i32 b0, .int .i32 lb, .int .i64 d0, .int .i64 d1, .int .i64 d2, .int .i32 rn, .int .i32 dp, .int .i32 f0, .int .i32 f1, .bool ng, .int .i8 md], .bool false]) ?_ rfl ⟨rfl, ?_⟩
  · simp [results, Yba.results28, go_sem, *]
  exact (((((((((((((HB2.out.setCell (Nat.le_succ _) _).setCell (Nat.le_succ _) _).setCell (Nat.le_succ _) _).setCell (Nat.le_succ _) _).setCell (Nat.le_succ _) _).setCell (Nat.le_succ _) _).setCell (Nat.le_succ _) _).setCell (Nat.le_succ _) _).setCell (Nat.le_succ _) _).setCell (Nat.le_succ _) _).setCell (Nat.le_succ _) _).setCell (Nat.le_succ _) _).setCell (Nat.le_succ _) _)

set_option maxHeartbeats 4000000 in
set_option maxRecDepth 100000 in
theorem head_some (S N R L k pl en len cap : Nat) (e x : Q) (w : World) (hk : k < 2) (s3 : w.cell? ⟨S, 3, none⟩ = some (.slice (some ⟨R, 0, none⟩) 2 2)) (rk : w.cell? ⟨R, k * 6, none⟩ = some (.int .u8 3)) (rp : w.cell? ⟨R, k * 6 + 4, none⟩ = some (.int .i32 pl)) (re : w.cell? ⟨R, k * 6 + 5, none⟩ = some (.int .i32 en))
    (s4 : w.cell? ⟨S, 4, none⟩ = some (.slice (some ⟨L, 0, none⟩) len cap)) (hpl : pl < en) (hlen : pl < len) (hx : QAt w L (pl * 13) x) :
    Calls Yba.prog 28 #[.pointer (some ⟨S, 0, none⟩), .pointer (some ⟨N, 0, none⟩), .int .i32 k, .agg (encQ e).toArray] w fun r w' => r = .returned (.tuple #[.agg (encQ x).toArray, .bool true]) ∧ Below w.heap.size w w' := by
  obtain ⟨k0, a0, b0, lb, d0, d1, d2, rn, dp, f0, f1, ng, md⟩ := e
  obtain ⟨K0, A0, B0, LB, D0, D1, D2, RN, DP, F0, F1, NG, MD⟩ := x
  have HX : Hid (QAt w L (pl * 13) ⟨K0, A0, B0, LB, D0, D1, D2, RN, DP, F0, F1, NG, MD⟩) := hx
  have HS4 : Hid _ := s4
  have pne : ((pl : Int) == (en : Int)) = false := by simp; omega
  have p0 : (0 : Int) ≤ (pl : Int) := by omega
  have p1 : (pl : Int) < (len : Int) := by omega
  clear hx s4
  simp only [encQ]
  have HS3 : Hid _ := s3
  have HRK : Hid _ := rk
  have HRP : Hid _ := rp
  have HRE : Hid _ := re
  have k0' : (0 : Int) ≤ (k : Int) := by omega
  have k1' : (k : Int) < 2 := by omega
  clear s3 rk rp re
  go_enter Yba.func28, Yba.ntmps28
  go_upto_region 1 with (fail)
  have hb1 : Below w.heap.size w ((w.alloc (.cells #[.int .u8 k0, .int .i32 a0, .int .i32 b0, .int .i32 lb, .int .i64 d0, .int .i64 d1, .int .i64 d2, .int .i32 rn, .int .i32 dp, .int .i32 f0, .int .i32 f1, .bool ng, .int .i8 md] 77)).alloc (.cells #[.int .u8 0, .int .i32 0, .int .i32 0, .int .i32 0, .int .i64 0, .int .i64 0, .int .i64 0, .int .i32 0, .int .i32 0, .int .i32 0, .int .i32 0, .bool false, .int .i8 0] 77)) := ((Below.refl _ _).alloc (Nat.le_refl _) _).alloc (by simp) _
  have hq1 : ((w.alloc (.cells #[.int .u8 k0, .int .i32 a0, .int .i32 b0, .int .i32 lb, .int .i64 d0, .int .i64 d1, .int .i64 d2, .int .i32 rn, .int .i32 dp, .int .i32 f0, .int .i32 f1, .bool ng, .int .i8 md] 77)).alloc (.cells #[.int .u8 0, .int .i32 0, .int .i32 0, .int .i32 0, .int .i64 0, .int .i64 0, .int .i64 0, .int .i32 0, .int .i32 0, .int .i32 0, .int .i32 0, .bool false, .int .i8 0] 77)).heap[w.heap.size]? = some (.cells #[.int .u8 k0, .int .i32 a0, .int .i32 b0, .int .i32 lb, .int .i64 d0, .int .i64 d1, .int .i64 d2, .int .i32 rn, .int .i32 dp, .int .i32 f0, .int .i32 f1, .bool ng, .int .i8 md] 77 (0, 0)) := (Below.heap_alloc _ _ _ (by simp)).trans (heap_alloc_new _ _)
  have hr1 : ((w.alloc (.cells #[.int .u8 k0, .int .i32 a0, .int .i32 b0, .int .i32 lb, .int .i64 d0, .int .i64 d1, .int .i64 d2, .int .i32 rn, .int .i32 dp, .int .i32 f0, .int .i32 f1, .bool ng, .int .i8 md] 77)).alloc (.cells #[.int .u8 0, .int .i32 0, .int .i32 0, .int .i32 0, .int .i64 0, .int .i64 0, .int .i64 0, .int .i32 0, .int .i32 0, .int .i32 0, .int .i32 0, .bool false, .int .i8 0] 77)).heap[w.heap.size + 1]? = some (.cells #[.int .u8 0, .int .i32 0, .int .i32 0, .int .i32 0, .int .i64 0, .int .i64 0, .int .i64 0, .int .i32 0, .int .i32 0, .int .i32 0, .int .i32 0, .bool false, .int .i8 0] 77 (0, 0)) := by
    have := heap_alloc_new (w.alloc (.cells #[.int .u8 k0, .int .i32 a0, .int .i32 b0, .int .i32 lb, .int .i64 d0, .int .i64 d1, .int .i64 d2, .int .i32 rn, .int .i32 dp, .int .i32 f0, .int .i32 f1, .bool ng, .int .i8 md] 77)) (.cells #[.int .u8 0, .int .i32 0, .int .i32 0, .int .i32 0, .int .i64 0, .int .i64 0, .int .i64 0, .int .i32 0, .int .i32 0, .int .i32 0, .int .i32 0, .bool false, .int .i8 0] 77)
    simpa using this
  generalize ((w.alloc (.cells #[.int .u8 k0, .int .i32 a0, .int .i32 b0, .int .i32 lb, .int .i64 d0, .int .i64 d1, .int .i64 d2, .int .i32 rn, .int .i32 dp, .int .i32 f0, .int .i32 f1, .bool ng, .int .i8 md] 77)).alloc (.cells #[.int .u8 0, .int .i32 0, .int .i32 0, .int .i32 0, .int .i64 0, .int .i64 0, .int .i64 0, .int .i32 0, .int .i32 0, .int .i32 0, .int .i32 0, .bool false, .int .i8 0] 77)) = w1 at hb1 hq1 hr1 ⊢
  have HB1 : Hid (Below w.heap.size w w1) := hb1
  have HQ1 : Hid _ := hq1
  have HR1 : Hid _ := hr1
  have s3 := cell_keeps hb1 HS3.out
  have rk := cell_keeps hb1 HRK.out
  have rp := cell_keeps hb1 HRP.out
  have re := cell_keeps hb1 HRE.out
  clear hb1 hq1 hr1
  have s4 := cell_keeps HB1.out HS4.out
  have hx' := QAt.keep HX.out HB1.out
  have HX1 : Hid (QAt w1 L (pl * 13) ⟨K0, A0, B0, LB, D0, D1, D2, RN, DP, F0, F1, NG, MD⟩) := hx'
  clear hx'
  go_wp2_with fail
  go_region_held3 (fun w' => w'.cell? ⟨R, k * 6 + 4, none⟩ = some (.int .i32 pl) ∧ w'.cell? ⟨R, k * 6 + 5, none⟩ = some (.int .i32 en)) (exact ⟨rp, re⟩) (fail)
  have hb2 : Below w.heap.size w w1.drew := HB1.out.drew
  have hr2 : w1.drew.heap[w.heap.size + 1]? = some (.cells #[.int .u8 0, .int .i32 0, .int .i32 0, .int .i32 0, .int .i64 0, .int .i64 0, .int .i64 0, .int .i32 0, .int .i32 0, .int .i32 0, .int .i32 0, .bool false, .int .i8 0] 77 (0, 0)) := HR1.out
  have hx2 : QAt w1.drew L (pl * 13) ⟨K0, A0, B0, LB, D0, D1, D2, RN, DP, F0, F1, NG, MD⟩ := HX1.out
  have rp2 : w1.drew.cell? ⟨R, k * 6 + 4, none⟩ = some (.int .i32 pl) := rp
  have s42 : w1.drew.cell? ⟨S, 4, none⟩ = some (.slice (some ⟨L, 0, none⟩) len cap) := s4
  clear s3 rk rp re s4
  go_wp2_with fail
  generalize w1.drew = w2 at hb2 hr2 hx2 rp2 s42 ⊢
  have v0 : w2.cell? ⟨L, pl * 13, none⟩ = some (.int .u8 K0) := hx2 0 (by omega)
  have v1 : w2.cell? ⟨L, pl * 13 + 1, none⟩ = some (.int .i32 A0) := hx2 1 (by omega)
  have v2 : w2.cell? ⟨L, pl * 13 + 2, none⟩ = some (.int .i32 B0) := hx2 2 (by omega)
  have v3 : w2.cell? ⟨L, pl * 13 + 3, none⟩ = some (.int .i32 LB) := hx2 3 (by omega)
  have v4 : w2.cell? ⟨L, pl * 13 + 4, none⟩ = some (.int .i64 D0) := hx2 4 (by omega)
  have v5 : w2.cell? ⟨L, pl * 13 + 5, none⟩ = some (.int .i64 D1) := hx2 5 (by omega)
  have v6 : w2.cell? ⟨L, pl * 13 + 6, none⟩ = some (.int .i64 D2) := hx2 6 (by omega)
  have v7 : w2.cell? ⟨L, pl * 13 + 7, none⟩ = some (.int .i32 RN) := hx2 7 (by omega)
  have v8 : w2.cell? ⟨L, pl * 13 + 8, none⟩ = some (.int .i32 DP) := hx2 8 (by omega)
  have v9 : w2.cell? ⟨L, pl * 13 + 9, none⟩ = some (.int .i32 F0) := hx2 9 (by omega)
  have v10 : w2.cell? ⟨L, pl * 13 + 10, none⟩ = some (.int .i32 F1) := hx2 10 (by omega)
  have v11 : w2.cell? ⟨L, pl * 13 + 11, none⟩ = some (.bool NG) := hx2 11 (by omega)
  have v12 : w2.cell? ⟨L, pl * 13 + 12, none⟩ = some (.int .i8 MD) := hx2 12 (by omega)
  have x0 : w2.cell? ⟨w.heap.size + 1, 0, none⟩ = some (.int .u8 0) := cellAt hr2 rfl
  have y0 : w2.frozen? ⟨w.heap.size + 1, 0, none⟩ = false := freeAt hr2
  have x1 : w2.cell? ⟨w.heap.size + 1, 1, none⟩ = some (.int .i32 0) := cellAt hr2 rfl
  have y1 : w2.frozen? ⟨w.heap.size + 1, 1, none⟩ = false := freeAt hr2
  have x2 : w2.cell? ⟨w.heap.size + 1, 2, none⟩ = some (.int .i32 0) := cellAt hr2 rfl
  have y2 : w2.frozen? ⟨w.heap.size + 1, 2, none⟩ = false := freeAt hr2
  have x3 : w2.cell? ⟨w.heap.size + 1, 3, none⟩ = some (.int .i32 0) := cellAt hr2 rfl
  have y3 : w2.frozen? ⟨w.heap.size + 1, 3, none⟩ = false := freeAt hr2
  have x4 : w2.cell? ⟨w.heap.size + 1, 4, none⟩ = some (.int .i64 0) := cellAt hr2 rfl
  have y4 : w2.frozen? ⟨w.heap.size + 1, 4, none⟩ = false := freeAt hr2
  have x5 : w2.cell? ⟨w.heap.size + 1, 5, none⟩ = some (.int .i64 0) := cellAt hr2 rfl
  have y5 : w2.frozen? ⟨w.heap.size + 1, 5, none⟩ = false := freeAt hr2
  have x6 : w2.cell? ⟨w.heap.size + 1, 6, none⟩ = some (.int .i64 0) := cellAt hr2 rfl
  have y6 : w2.frozen? ⟨w.heap.size + 1, 6, none⟩ = false := freeAt hr2
  have x7 : w2.cell? ⟨w.heap.size + 1, 7, none⟩ = some (.int .i32 0) := cellAt hr2 rfl
  have y7 : w2.frozen? ⟨w.heap.size + 1, 7, none⟩ = false := freeAt hr2
  have x8 : w2.cell? ⟨w.heap.size + 1, 8, none⟩ = some (.int .i32 0) := cellAt hr2 rfl
  have y8 : w2.frozen? ⟨w.heap.size + 1, 8, none⟩ = false := freeAt hr2
  have x9 : w2.cell? ⟨w.heap.size + 1, 9, none⟩ = some (.int .i32 0) := cellAt hr2 rfl
  have y9 : w2.frozen? ⟨w.heap.size + 1, 9, none⟩ = false := freeAt hr2
  have x10 : w2.cell? ⟨w.heap.size + 1, 10, none⟩ = some (.int .i32 0) := cellAt hr2 rfl
  have y10 : w2.frozen? ⟨w.heap.size + 1, 10, none⟩ = false := freeAt hr2
  have x11 : w2.cell? ⟨w.heap.size + 1, 11, none⟩ = some (.bool false) := cellAt hr2 rfl
  have y11 : w2.frozen? ⟨w.heap.size + 1, 11, none⟩ = false := freeAt hr2
  have x12 : w2.cell? ⟨w.heap.size + 1, 12, none⟩ = some (.int .i8 0) := cellAt hr2 rfl
  have y12 : w2.frozen? ⟨w.heap.size + 1, 12, none⟩ = false := freeAt hr2
  have HB2 : Hid _ := hb2
  clear hb2 hr2 hx2
  go_region
  all_goals
    go_wp2
    refine bodyPost_ret (v := .tuple #[.agg #[.int .u8 K0, .int .i32 A0, .int .i32 B0, .int .i32 LB, .int .i64 D0, .int .i64 D1, .int .i64 D2, .int .i32 RN, .int .i32 DP, .int .i32 F0, .int .i32 F1, .bool NG, .int .i8 MD], .bool true]) ?_ rfl ⟨rfl, ?_⟩
    · simp [results, Yba.results28, go_sem, *]
    · exact (((((((((((((HB2.out.setCell (Nat.le_succ _) _).setCell (Nat.le_succ _) _).setCell (Nat.le_succ _) _).setCell (Nat.le_succ _) _).setCell (Nat.le_succ _) _).setCell (Nat.le_succ _) _).setCell (Nat.le_succ _) _).setCell (Nat.le_succ _) _).setCell (Nat.le_succ _) _).setCell (Nat.le_succ _) _).setCell (Nat.le_succ _) _).setCell (Nat.le_succ _) _).setCell (Nat.le_succ _) _).drew
end Go.Proofs.Ybulkkru.cst

import Derived.Test.YbulkkruKeyed
import Derived.Laws.StructEq
namespace Go.Proofs.Ybulkkru.cst
open Go.RowKit Go.Proofs Go.Proofs.Ybulkkru.net
set_option linter.unusedVariables false

theorem eqIn66 (k a b : Int) (w : World) (d : Nat) : (Op.equalIn (d + 2) 66 (.agg #[.int .u8 k, .int .i32 a, .int .i32 b]) (.agg #[.int .u8 k, .int .i32 a, .int .i32 b])).run Yba.prog w = .ok true w := by
  rw [run_equalIn_agg w (d + 1) 66 _ _ (by kernel_rfl) (by kernel_rfl)]
  simp [Program.fieldsOf, Yba.underlying66, Op.eqFields, go_sem, Yba.underlying64, Yba.underlying21]
theorem eqIn28 (a0 a1 a2 : Int) (w : World) (d : Nat) : (Op.equalIn (d + 2) 28 (.agg #[.int .i64 a0, .int .i64 a1, .int .i64 a2]) (.agg #[.int .i64 a0, .int .i64 a1, .int .i64 a2])).run Yba.prog w = .ok true w := by
  rw [run_equalIn_agg w (d + 1) 28 _ _ (by kernel_rfl) (by kernel_rfl)]
  simp [Program.fieldsOf, Yba.underlying28, Op.eqFields, go_sem, Yba.underlying3]
theorem eqIn74 (a b : Int) (w : World) (d : Nat) : (Op.equalIn (d + 2) 74 (.agg #[.int .i32 a, .int .i32 b]) (.agg #[.int .i32 a, .int .i32 b])).run Yba.prog w = .ok true w := by
  simp [Op.equalIn, go_sem]
  rw [show List.range' 0 2 = [0, 1] from rfl]
  simp [go_sem]
theorem eqIn77 (x : Q) (w : World) : (Op.equalIn 10000 77 (.agg (encQ x).toArray) (.agg (encQ x).toArray)).run Yba.prog w = .ok true w := by
  rw [run_equalIn_agg w 9999 77 _ _ (by kernel_rfl) (by kernel_rfl)]
  have h66 := fun w => eqIn66 x.kind x.a x.b w 9997
  have h28 := fun w => eqIn28 x.d0 x.d1 x.d2 w 9997
  have h74 := fun w => eqIn74 x.f0 x.f1 w 9997
  simp [Program.fieldsOf, Yba.underlying77, Op.eqFields, encQ, go_sem, h66, h28, h74, Yba.underlying21, Yba.underlying4, Yba.underlying75]
theorem neq77 (x : Q) (w : World) : (binOp .neq 77 (.agg (encQ x).toArray) (.agg (encQ x).toArray)).run Yba.prog w = .ok (.bool false) w := by
  have h := eqIn77 x w
  simp only [binOp]
  simp [Op.equal, Op.maxDepth, h]
theorem eql77 (x : Q) (w : World) : (binOp .eql 77 (.agg (encQ x).toArray) (.agg (encQ x).toArray)).run Yba.prog w = .ok (.bool true) w := by
  have h := eqIn77 x w
  simp only [binOp]
  simp [Op.equal, Op.maxDepth, h]
theorem neq80 (a b c d e f : Int) (w : World) : (binOp .neq 80 (.agg #[.int .u8 a, .int .i32 b, .int .i32 c, .int .i32 d, .int .i32 e, .int .i32 f]) (.agg #[.int .u8 a, .int .i32 b, .int .i32 c, .int .i32 d, .int .i32 e, .int .i32 f])).run Yba.prog w = .ok (.bool false) w := by
  have h : (Op.equalIn 10000 80 (.agg #[.int .u8 a, .int .i32 b, .int .i32 c, .int .i32 d, .int .i32 e, .int .i32 f]) (.agg #[.int .u8 a, .int .i32 b, .int .i32 c, .int .i32 d, .int .i32 e, .int .i32 f])).run Yba.prog w = .ok true w := by
    rw [run_equalIn_agg w 9999 80 _ _ (by kernel_rfl) (by kernel_rfl)]
    simp [Program.fieldsOf, Yba.underlying80, Op.eqFields, go_sem, Yba.underlying78, Yba.underlying21]
  simp only [binOp]
  simp [Op.equal, Op.maxDepth, h]
end Go.Proofs.Ybulkkru.cst

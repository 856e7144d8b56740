import Derived.Test.YbulkkruTailDef
import Derived.Test.YbulkkruNeq
import Derived.Deep.QuietTactic
import Derived.BigQuiet
import Derived.Deep.CutBlock
namespace Go.Proofs.Ybulkkru.cst
open Go.RowKit Go.Proofs Go.Proofs.Ybulkkru.net
set_option linter.unusedVariables false

set_option maxHeartbeats 8000000 in
set_option maxRecDepth 100000 in
theorem tail97 (m S lg off gcap wcap : Nat) (gp wp : Option Addr) (qv : Value) (w0 w : World) (a : Act) (hsz : a.tmps.size = 474) (hd : a.defers = []) (h46 : a.tmps.getD 46 undef = .pointer (some ⟨S, 0, none⟩)) (h48 : a.tmps.getD 48 undef = .slice wp m wcap) (h61 : a.tmps.getD 61 undef = .slice gp m gcap)
    (s2 : w.cell? ⟨S, 2, none⟩ = some qv) (hq : (m = 0 ∧ qv = .slice none 0 0) ∨ (0 < m ∧ ∃ qg qcap x, qv = .slice (some ⟨qg, 0, none⟩) 1 qcap ∧ QAt w qg 0 x ∧ gp = some ⟨lg, off, none⟩ ∧ QAt w lg off x)) (hB : Below w0.heap.size w0 w) :
    Code.wp Yba.prog C97 (LawPost w0) a w := by
  obtain ⟨t, df⟩ := a
  simp only at hsz hd h46 h48 h61
  subst hd
  obtain ⟨f, hf, rfl⟩ := lit474 t hsz
  rw [hf] at h46 h48 h61
  have HB : Hid (Below w0.heap.size w0 w) := hB
  clear hB hf hsz
  rw [h46, h48, h61]
  show Code.wp Yba.prog C97 (bodyPost Yba.prog Yba.f3 fun e w' => e = .returned (.bool true) ∧ Below w0.heap.size w0 w') _ w
  conv => arg 2; whnf
  rcases hq with ⟨rfl, rfl⟩ | ⟨hm, qg, qcap, x, rfl, qa, rfl, qb⟩
  · go_wp2_with fail
    go_ret
    exact ⟨rfl, HB.out⟩
  · have hm0 : ¬ (m : Int) = 0 := by omega
    have hm1 : (0 : Int) < (m : Int) := by omega
    have heq : ∀ W, (binOp .eql 77 (.agg (encQ x).toArray) (.agg (encQ x).toArray)).run Yba.prog W = .ok (.bool true) W := fun W => eql77 x W
    simp only [encQ] at heq
    have u0 : w.cell? ⟨qg, 0, none⟩ = some (.int .u8 x.kind) := by have := qa 0 (by omega); simpa [encQ] using this
    have u1 : w.cell? ⟨qg, 1, none⟩ = some (.int .i32 x.a) := by have := qa 1 (by omega); simpa [encQ] using this
    have u2 : w.cell? ⟨qg, 2, none⟩ = some (.int .i32 x.b) := by have := qa 2 (by omega); simpa [encQ] using this
    have u3 : w.cell? ⟨qg, 3, none⟩ = some (.int .i32 x.label) := by have := qa 3 (by omega); simpa [encQ] using this
    have u4 : w.cell? ⟨qg, 4, none⟩ = some (.int .i64 x.d0) := by have := qa 4 (by omega); simpa [encQ] using this
    have u5 : w.cell? ⟨qg, 5, none⟩ = some (.int .i64 x.d1) := by have := qa 5 (by omega); simpa [encQ] using this
    have u6 : w.cell? ⟨qg, 6, none⟩ = some (.int .i64 x.d2) := by have := qa 6 (by omega); simpa [encQ] using this
    have u7 : w.cell? ⟨qg, 7, none⟩ = some (.int .i32 x.run) := by have := qa 7 (by omega); simpa [encQ] using this
    have u8 : w.cell? ⟨qg, 8, none⟩ = some (.int .i32 x.depth) := by have := qa 8 (by omega); simpa [encQ] using this
    have u9 : w.cell? ⟨qg, 9, none⟩ = some (.int .i32 x.f0) := by have := qa 9 (by omega); simpa [encQ] using this
    have u10 : w.cell? ⟨qg, 10, none⟩ = some (.int .i32 x.f1) := by have := qa 10 (by omega); simpa [encQ] using this
    have u11 : w.cell? ⟨qg, 11, none⟩ = some (.bool x.ng) := by have := qa 11 (by omega); simpa [encQ] using this
    have u12 : w.cell? ⟨qg, 12, none⟩ = some (.int .i8 x.md) := by have := qa 12 (by omega); simpa [encQ] using this
    have v0 : w.cell? ⟨lg, off, none⟩ = some (.int .u8 x.kind) := qb 0 (by omega)
    have v1 : w.cell? ⟨lg, off + 1, none⟩ = some (.int .i32 x.a) := qb 1 (by omega)
    have v2 : w.cell? ⟨lg, off + 2, none⟩ = some (.int .i32 x.b) := qb 2 (by omega)
    have v3 : w.cell? ⟨lg, off + 3, none⟩ = some (.int .i32 x.label) := qb 3 (by omega)
    have v4 : w.cell? ⟨lg, off + 4, none⟩ = some (.int .i64 x.d0) := qb 4 (by omega)
    have v5 : w.cell? ⟨lg, off + 5, none⟩ = some (.int .i64 x.d1) := qb 5 (by omega)
    have v6 : w.cell? ⟨lg, off + 6, none⟩ = some (.int .i64 x.d2) := qb 6 (by omega)
    have v7 : w.cell? ⟨lg, off + 7, none⟩ = some (.int .i32 x.run) := qb 7 (by omega)
    have v8 : w.cell? ⟨lg, off + 8, none⟩ = some (.int .i32 x.depth) := qb 8 (by omega)
    have v9 : w.cell? ⟨lg, off + 9, none⟩ = some (.int .i32 x.f0) := qb 9 (by omega)
    have v10 : w.cell? ⟨lg, off + 10, none⟩ = some (.int .i32 x.f1) := qb 10 (by omega)
    have v11 : w.cell? ⟨lg, off + 11, none⟩ = some (.bool x.ng) := qb 11 (by omega)
    have v12 : w.cell? ⟨lg, off + 12, none⟩ = some (.int .i8 x.md) := qb 12 (by omega)
    clear qa qb
    go_wp2_with fail
    go_quiet (fail)
    have HB2 : Hid (Below w0.heap.size w0 (w.drewN nq)) := by
      have hl : Laid w (w.drewN nq) := ⟨nq, #[], by simp⟩
      exact HB.out.trans (hl.below.mono HB.out.size)
    go_wp2_with fail
    go_ret
    exact ⟨rfl, HB2.out⟩
end Go.Proofs.Ybulkkru.cst

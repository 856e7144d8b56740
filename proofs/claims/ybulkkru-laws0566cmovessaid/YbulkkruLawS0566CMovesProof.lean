/- Rows.LawS0566CMovesSaid. The row's step is the guide's template at this function. -/
import Derived.Test.YbulkkruRows
import Derived.WalkKit
import Derived.ProofKit
import Derived.OpenShut
import Derived.ChangeOld
import Derived.Below
import Derived.Laws.IdiomArrays
import Derived.Test.YbulkkruCLaw
namespace Go.Proofs.Ybulkkru.lawS0566CMoves
open Go.ChangeShapes Go.WideShapes Go.ChangeAt Go.RowKit
set_option linter.unusedVariables false

theorem own : ownKnob Yba.prog.godebug = none := by kernel_rfl
theorem laidOut : laidOutB Yba.prog = true := by kernel_rfl
theorem cells23 : Yba.prog.cellsOf 23 = 3 := by kernel_rfl
theorem cellsInt : Yba.prog.cellsOf 3 = 1 := by kernel_rfl

theorem list3 {α : Type} (l : List α) (h : l.length = 3) : ∃ a b c, l = [a, b, c] := by
  match l, h with
  | [a, b, c], _ => exact ⟨a, b, c, rfl⟩

set_option maxRecDepth 100000 in
/-- An array of three numbers that came in by value. -/
theorem arr_of {H : Type} {enc : TypeId × Value → H} {W : World} {r : Reach} {b0 base : Nat} {spare : Nat → Bool} {held : Bool} {v : Value} {d : DataW H} {p : List MemPlace}
    (hval : Value.okWide Yba.prog W r b0 23 v) (h : DataW.Trod enc Yba.prog W base spare held 23 v d p) : ∃ x y z, v = .agg #[.int .i64 x, .int .i64 y, .int .i64 z] := by
  obtain ⟨cs, rfl, hsz, _⟩ : ∃ cs, v = .agg cs ∧ cs.size = Yba.prog.cellsOf 23 ∧ Row.okWide Yba.prog W r b0 23 cs := by
    simpa [Value.okWide, Yba.underlying23] using hval
  rw [cells23] at hsz
  obtain ⟨l⟩ := cs
  obtain ⟨c0, c1, c2, rfl⟩ := list3 l hsz
  obtain ⟨fuel, hf⟩ := h
  obtain ⟨y0, y1, y2, m, hx, hy0, hy1, hy2⟩ := trod_array3 Yba.underlying23 cellsInt hf
  obtain ⟨x0, e0, _, _⟩ := DataW.trod_int Yba.underlying3 hy0
  obtain ⟨x1, e1, _, _⟩ := DataW.trod_int Yba.underlying3 hy1
  obtain ⟨x2, e2, _, _⟩ := DataW.trod_int Yba.underlying3 hy2
  simp at e0 e1 e2
  subst e0 e1 e2
  exact ⟨x0, x1, x2, rfl⟩

theorem walk (nb sel u0 u1 u2 p0 p1 p2 d0 d1 d2 g0 g1 g2 ceil : Int) (uc past : Bool) (w : World) (wn : (Lit.int .u8 nb).wf = true) (ws : (Lit.int .u8 sel).wf = true) :
    Calls Yba.prog 6 #[.int .u8 nb, .int .u8 sel, .agg #[.int .i64 u0, .int .i64 u1, .int .i64 u2], .agg #[.int .i64 p0, .int .i64 p1, .int .i64 p2], .agg #[.int .i64 d0, .int .i64 d1, .int .i64 d2], .agg #[.int .i64 g0, .int .i64 g1, .int .i64 g2], .bool uc, .int .i64 ceil, .bool past] w
      fun e w' => e = .returned (.bool true) ∧ Below w.heap.size w w' := by
  obtain ⟨a0, a1⟩ := bounds_u8 wn
  obtain ⟨b0, b1⟩ := bounds_u8 ws
  obtain ⟨n, rfl⟩ : ∃ n : Nat, nb = (n : Int) := ⟨nb.toNat, by omega⟩
  obtain ⟨s, rfl⟩ : ∃ s : Nat, sel = (s : Int) := ⟨sel.toNat, by omega⟩
  exact cst.law_any n s u0 u1 u2 p0 p1 p2 d0 d1 d2 g0 g1 g2 ceil uc past w (by omega) (by omega)

set_option maxRecDepth 100000 in
theorem lifted (os : Os) (started : os.Started) (H : Type) (enc : TypeId × Value → H) :
    ReturnsInHanded {} Yba.checked os 6 .any (Rows.lawS0566CMovesSpec.pre6 enc Yba.prog Yba.f6 Rows.lawS0566CMovesRow.domain false) (Rows.lawS0566CMovesSpec.post enc Yba.prog Yba.f6 false true false false) := by
  refine returnsInHanded_of_change (C := Yba.checked) own started (by kernel_rfl) Yba.func6
    (ChangeSpec.witness6 (enc := enc) (C := Yba.checked) false ⟨#[], #[.int .u8 0, .int .u8 0, .agg #[.int .i64 0, .int .i64 0, .int .i64 0], .agg #[.int .i64 0, .int .i64 0, .int .i64 0], .agg #[.int .i64 0, .int .i64 0, .int .i64 0], .agg #[.int .i64 0, .int .i64 0, .int .i64 0], .bool false, .int .i64 0, .bool false], []⟩ 8 (by kernel_rfl) (by kernel_rfl) (by kernel_rfl) (by kernel_rfl)) ?_
  intro W base args ds gs before hval0 hW hcnd _
  have hval : ∀ (j : Nat) t v, Yba.f6.params[j]? = some t → args[j]? = some v → Value.okWide Yba.prog W .any base t v := hval0
  have hW' := hW
  obtain ⟨p, q, hA0, hV, rfl, hfz, hnd⟩ := hW
  have hA : DataW.TrodAll enc Yba.prog W 0 (fun _ => true) true Yba.f6.params.toList args.toList ds p := hA0
  rw [Yba.params6] at hA hval
  obtain ⟨v0, vs0, d0, ds0, p0, q0, hargs, rfl, rfl, h0, r0⟩ := trodAll_cons hA
  obtain ⟨v1, vs1, d1, ds1, p1, q1, rfl, rfl, rfl, h1, r1⟩ := trodAll_cons r0
  obtain ⟨v2, vs2, d2, ds2, p2, q2, rfl, rfl, rfl, h2, r2⟩ := trodAll_cons r1
  obtain ⟨v3, vs3, d3, ds3, p3, q3, rfl, rfl, rfl, h3, r3⟩ := trodAll_cons r2
  obtain ⟨v4, vs4, d4, ds4, p4, q4, rfl, rfl, rfl, h4, r4⟩ := trodAll_cons r3
  obtain ⟨v5, vs5, d5, ds5, p5, q5, rfl, rfl, rfl, h5, r5⟩ := trodAll_cons r4
  obtain ⟨v6, vs6, d6, ds6, p6, q6, rfl, rfl, rfl, h6, r6⟩ := trodAll_cons r5
  obtain ⟨v7, vs7, d7, ds7, p7, q7, rfl, rfl, rfl, h7, r7⟩ := trodAll_cons r6
  obtain ⟨v8, vs8, d8, ds8, p8, q8, rfl, rfl, rfl, h8, r8⟩ := trodAll_cons r7
  obtain ⟨rfl, rfl, rfl⟩ := trodAll_nil r8
  obtain rfl : args = #[v0, v1, v2, v3, v4, v5, v6, v7, v8] := by cases args; simp_all
  obtain ⟨rfl, rfl⟩ := trodVars_none hV
  obtain ⟨a0, rfl, rfl, rfl, w0⟩ := open_int Yba.underlying5 (hval 0 5 v0 rfl rfl) h0
  obtain ⟨a1, rfl, rfl, rfl, w1⟩ := open_int Yba.underlying5 (hval 1 5 v1 rfl rfl) h1
  have k2 := h2
  have lt2 : ∀ x ∈ p2, x.block < W.heap.size := by obtain ⟨m, hm⟩ := k2; exact DataW.trod_lt m _ _ _ hm
  obtain ⟨x2, y2, z2, rfl⟩ := arr_of (hval 2 23 v2 rfl rfl) h2
  have k3 := h3
  have lt3 : ∀ x ∈ p3, x.block < W.heap.size := by obtain ⟨m, hm⟩ := k3; exact DataW.trod_lt m _ _ _ hm
  obtain ⟨x3, y3, z3, rfl⟩ := arr_of (hval 3 23 v3 rfl rfl) h3
  have k4 := h4
  have lt4 : ∀ x ∈ p4, x.block < W.heap.size := by obtain ⟨m, hm⟩ := k4; exact DataW.trod_lt m _ _ _ hm
  obtain ⟨x4, y4, z4, rfl⟩ := arr_of (hval 4 23 v4 rfl rfl) h4
  have k5 := h5
  have lt5 : ∀ x ∈ p5, x.block < W.heap.size := by obtain ⟨m, hm⟩ := k5; exact DataW.trod_lt m _ _ _ hm
  obtain ⟨x5, y5, z5, rfl⟩ := arr_of (hval 5 23 v5 rfl rfl) h5
  obtain ⟨a6, rfl, rfl, rfl⟩ := open_bool Yba.underlying4 (hval 6 4 v6 rfl rfl) h6
  obtain ⟨a7, rfl, rfl, rfl, w7⟩ := open_int Yba.underlying3 (hval 7 3 v7 rfl rfl) h7
  obtain ⟨a8, rfl, rfl, rfl⟩ := open_bool Yba.underlying4 (hval 8 4 v8 rfl rfl) h8
  clear hA0 hval0
  refine (walk a0 a1 x2 y2 z2 x3 y3 z3 x4 y4 z4 x5 y5 z5 a7 a6 a8 W w0 w1).mono fun e W' ⟨he, bel⟩ => ?_
  subst he
  exact ⟨_, rfl, _, _, _, [], _, [], hW', trodAll_mk1 (shut_bool Yba.underlying4 _), (trodAll_cons_mk (shut_int Yba.underlying5 w0) (trodAll_cons_mk (shut_int Yba.underlying5 w1) (trodAll_cons_mk (Below.trod laidOut (by kernel_rfl) (of_decide_eq_true (by kernel_rfl)) k2 bel lt2) (trodAll_cons_mk (Below.trod laidOut (by kernel_rfl) (of_decide_eq_true (by kernel_rfl)) k3 bel lt3) (trodAll_cons_mk (Below.trod laidOut (by kernel_rfl) (of_decide_eq_true (by kernel_rfl)) k4 bel lt4) (trodAll_cons_mk (Below.trod laidOut (by kernel_rfl) (of_decide_eq_true (by kernel_rfl)) k5 bel lt5) (trodAll_cons_mk (shut_bool Yba.underlying4 _) (trodAll_cons_mk (shut_int Yba.underlying3 w7) (trodAll_cons_mk (shut_bool Yba.underlying4 _) trodAll_mk0))))))))), rfl, bel.frame _, fun h => by cases h⟩

theorem over : Rows.lawS0566CMovesRow.holds Yba.pinned (OpenSpec.ofChange Rows.lawS0566CMovesSpec) :=
  OpenClaim.holds_of_wide 6 Yba.f6 rfl rfl rfl rfl rfl rfl rfl ⟨rfl, rfl, rfl, rfl, rfl⟩ rfl rfl rfl rfl rfl (by kernel_rfl) Yba.func6 (by kernel_rfl)
    (of_decide_eq_true (by kernel_rfl)) (by unfold Func.isWrapper; first | (rw [if_pos (by decide +kernel)]; kernel_rfl) | (rw [if_neg (by decide +kernel)]; exact ⟨rfl, rfl⟩))
    (fun os started H enc _ => lifted os started H enc)

/-- ████ THE STATEMENT ████ -/
theorem proved : Rows.LawS0566CMovesSaid := over
end Go.Proofs.Ybulkkru.lawS0566CMoves

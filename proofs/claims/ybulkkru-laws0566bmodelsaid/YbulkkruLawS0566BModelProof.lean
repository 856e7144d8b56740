/- Rows.LawS0566BModelSaid. The row's step is the guide's template at this function. -/
import Derived.Test.YbulkkruRows
import Derived.WalkKit
import Derived.ProofKit
import Derived.OpenShut
import Derived.ShutString
import Derived.ChangeOld
import Derived.Below
import Derived.Test.YbulkkruRowsIn
import Derived.Test.YbulkkruModelC
import Derived.Test.YbulkkruModelE
import Derived.Test.YbulkkruModelF
namespace Go.Proofs.Ybulkkru.lawS0566BModel
open Go.ChangeShapes Go.WideShapes Go.ChangeAt Go.RowKit
open Go.ChangeMaps (open_string shut_string)
set_option linter.unusedVariables false

theorem own : ownKnob Yba.prog.godebug = none := by kernel_rfl
theorem laidOut : laidOutB Yba.prog = true := by kernel_rfl

/-- More than 300 of either: the law says true at once. -/
theorem many (ao bo : Option Addr) (n cap m bcap : Nat) (um bk : Bool) (k a b : Int) (w : World) (hn : n ≤ maxLen) (hm : m ≤ maxLen) (h : 300 < n ∨ 300 < m) :
    Calls Yba.prog 4 #[.slice ao n cap, .slice bo m bcap, .bool um, .bool bk, .int .u8 k, .int .u8 a, .int .u8 b] w fun e w' => e = .returned (.bool true) ∧ Below w.heap.size w w' := by
  unfold maxLen at hn hm
  by_cases h1 : 300 < n
  · have h1' : (300 : Int) < (n : Int) := by omega
    go_enter Yba.func4, Yba.ntmps4
    go_wp2
    go_ret
    exact ⟨rfl, Below.refl _ _⟩
  · have h1' : ¬ (300 : Int) < (n : Int) := by omega
    have h2' : (300 : Int) < (m : Int) := by omega
    go_enter Yba.func4, Yba.ntmps4
    go_wp2
    go_ret
    exact ⟨rfl, Below.refl _ _⟩

theorem walk (ao bo : Option Addr) (n cap m bcap : Nat) (D : List net.PartD) (E : List net.BrokD) (um bk : Bool) (k a b : Int) (w : World) (hn : n ≤ maxLen) (hm : m ≤ maxLen) (hDl : D.length = n) (hEl : E.length = m) (hD : net.PartsIn w ao D) (hE : net.BroksIn w bo E)
    (wk : (Lit.int .u8 k).wf = true) (wa : (Lit.int .u8 a).wf = true) (wb : (Lit.int .u8 b).wf = true) :
    Calls Yba.prog 4 #[.slice ao n cap, .slice bo m bcap, .bool um, .bool bk, .int .u8 k, .int .u8 a, .int .u8 b] w fun e w' => e = .returned (.bool true) ∧ Below w.heap.size w w' := by
  by_cases h : 300 < n ∨ 300 < m
  · exact many ao bo n cap m bcap um bk k a b w hn hm h
  · subst hDl
    subst hEl
    have hD3 : D.length ≤ 300 := by omega
    have hE3 : E.length ≤ 300 := by omega
    obtain ⟨k0, k1⟩ := bounds_u8 wk
    obtain ⟨a0, a1⟩ := bounds_u8 wa
    obtain ⟨b0, b1⟩ := bounds_u8 wb
    cases bk with
    | true => exact net.model_back ao bo cap bcap D E k a b um w hD hE hD3 hE3 k0 k1 a0 a1 b0 b1
    | false =>
      cases um with
      | false => exact net.model_mended ao bo cap bcap D E k a b w hD hE hD3 hE3 k0 k1 a0 a1 b0 b1
      | true =>
        by_cases e6 : k % 7 = 6
        · exact net.model_rack ao bo cap bcap D E k a b w hD hE hD3 hE3 k0 k1 a0 a1 b0 b1 e6
        by_cases e3 : k % 7 = 3
        · exact net.model_hold ao bo cap bcap D E k a b w hD hE hD3 hE3 k0 k1 a0 a1 b0 b1 e3
        by_cases e2 : k % 7 = 2
        · exact net.model_brok ao bo cap bcap D E k a b w hD hE hD3 hE3 k0 k1 a0 a1 b0 b1 e2
        exact net.model_rest ao bo cap bcap D E k a b w hD hE hD3 hE3 k0 k1 a0 a1 b0 b1 (beq_eq_false_iff_ne.2 e6) (beq_eq_false_iff_ne.2 e3) (beq_eq_false_iff_ne.2 e2)

/-! ### THE ROW's STEP: WRITTEN OUT: LEAVE IT -/
set_option maxRecDepth 100000 in
theorem lifted (os : Os) (started : os.Started) (H : Type) (enc : TypeId × Value → H) :
    ReturnsInHanded {} Yba.checked os 4 .any (Rows.lawS0566BModelSpec.pre6 enc Yba.prog Yba.f4 Rows.lawS0566BModelRow.domain false) (Rows.lawS0566BModelSpec.post enc Yba.prog Yba.f4 false true false false) := by
  refine returnsInHanded_of_change (C := Yba.checked) own started (by kernel_rfl) Yba.func4
    (ChangeSpec.witness6 (enc := enc) (C := Yba.checked) false ⟨#[], #[.slice none 0 0, .slice none 0 0, .bool false, .bool false, .int .u8 0, .int .u8 0, .int .u8 0], []⟩ 8 (by kernel_rfl) (by kernel_rfl) (by kernel_rfl) (by kernel_rfl)) ?_
  intro W base args ds gs before hval0 hW hcnd _
  have hval : ∀ (j : Nat) t v, Yba.f4.params[j]? = some t → args[j]? = some v → Value.okWide Yba.prog W .any base t v := hval0
  have hW' := hW
  obtain ⟨p, q, hA0, hV, rfl, hfz, hnd⟩ := hW
  have hA : DataW.TrodAll enc Yba.prog W 0 (fun _ => true) true Yba.f4.params.toList args.toList ds p := hA0
  rw [Yba.params4] at hA hval
  obtain ⟨v0, vs0, d0, ds0, p0, q0, hargs, rfl, rfl, h0, r0⟩ := trodAll_cons hA
  obtain ⟨v1, vs1, d1, ds1, p1, q1, rfl, rfl, rfl, h1, r1⟩ := trodAll_cons r0
  obtain ⟨v2, vs2, d2, ds2, p2, q2, rfl, rfl, rfl, h2, r2⟩ := trodAll_cons r1
  obtain ⟨v3, vs3, d3, ds3, p3, q3, rfl, rfl, rfl, h3, r3⟩ := trodAll_cons r2
  obtain ⟨v4, vs4, d4, ds4, p4, q4, rfl, rfl, rfl, h4, r4⟩ := trodAll_cons r3
  obtain ⟨v5, vs5, d5, ds5, p5, q5, rfl, rfl, rfl, h5, r5⟩ := trodAll_cons r4
  obtain ⟨v6, vs6, d6, ds6, p6, q6, rfl, rfl, rfl, h6, r6⟩ := trodAll_cons r5
  obtain ⟨rfl, rfl, rfl⟩ := trodAll_nil r6
  obtain rfl : args = #[v0, v1, v2, v3, v4, v5, v6] := by cases args; simp_all
  obtain ⟨rfl, rfl⟩ := trodVars_none hV
  obtain ⟨a0, len0, cap0, rfl⟩ := okWide_slice Yba.underlying91 (hval 0 91 v0 rfl rfl)
  have k0 := h0
  have lt0 : ∀ x ∈ p0, x.block < W.heap.size := by obtain ⟨m, hm⟩ := k0; exact DataW.trod_lt m _ _ _ hm
  obtain ⟨hm0, D, hDl, hD⟩ := net.partsIn_of h0
  obtain ⟨a1, len1, cap1, rfl⟩ := okWide_slice Yba.underlying92 (hval 1 92 v1 rfl rfl)
  have k1 := h1
  have lt1 : ∀ x ∈ p1, x.block < W.heap.size := by obtain ⟨m, hm⟩ := k1; exact DataW.trod_lt m _ _ _ hm
  obtain ⟨hm1, E, hEl, hE⟩ := net.broksIn_of h1
  obtain ⟨a2, rfl, rfl, rfl⟩ := open_bool Yba.underlying4 (hval 2 4 v2 rfl rfl) h2
  obtain ⟨a3, rfl, rfl, rfl⟩ := open_bool Yba.underlying4 (hval 3 4 v3 rfl rfl) h3
  obtain ⟨a4, rfl, rfl, rfl, w4⟩ := open_int Yba.underlying5 (hval 4 5 v4 rfl rfl) h4
  obtain ⟨a5, rfl, rfl, rfl, w5⟩ := open_int Yba.underlying5 (hval 5 5 v5 rfl rfl) h5
  obtain ⟨a6, rfl, rfl, rfl, w6⟩ := open_int Yba.underlying5 (hval 6 5 v6 rfl rfl) h6
  clear hA0 hval0
  refine (walk a0 a1 len0 cap0 len1 cap1 D E a2 a3 a4 a5 a6 W hm0 hm1 hDl hEl hD hE w4 w5 w6).mono fun e W' ⟨he, bel⟩ => ?_
  subst he
  exact ⟨_, rfl, _, _, _, [], _, [], hW', trodAll_mk1 (shut_bool Yba.underlying4 _), (trodAll_cons_mk (Below.trod laidOut (by kernel_rfl) (of_decide_eq_true (by kernel_rfl)) k0 bel lt0) (trodAll_cons_mk (Below.trod laidOut (by kernel_rfl) (of_decide_eq_true (by kernel_rfl)) k1 bel lt1) (trodAll_cons_mk (shut_bool Yba.underlying4 _) (trodAll_cons_mk (shut_bool Yba.underlying4 _) (trodAll_cons_mk (shut_int Yba.underlying5 w4) (trodAll_cons_mk (shut_int Yba.underlying5 w5) (trodAll_cons_mk (shut_int Yba.underlying5 w6) trodAll_mk0))))))), rfl, bel.frame _, fun h => by cases h⟩

theorem over : Rows.lawS0566BModelRow.holds Yba.pinned (OpenSpec.ofChange Rows.lawS0566BModelSpec) :=
  OpenClaim.holds_of_wide 4 Yba.f4 rfl rfl rfl rfl rfl rfl rfl ⟨rfl, rfl, rfl, rfl, rfl⟩ rfl rfl rfl rfl rfl (by kernel_rfl) Yba.func4 (by kernel_rfl)
    (of_decide_eq_true (by kernel_rfl)) (by unfold Func.isWrapper; first | (rw [if_pos (by decide +kernel)]; kernel_rfl) | (rw [if_neg (by decide +kernel)]; exact ⟨rfl, rfl⟩))
    (fun os started H enc _ => lifted os started H enc)

/-- ████ THE STATEMENT ████ -/
theorem proved : Rows.LawS0566BModelSaid := over
end Go.Proofs.Ybulkkru.lawS0566BModel

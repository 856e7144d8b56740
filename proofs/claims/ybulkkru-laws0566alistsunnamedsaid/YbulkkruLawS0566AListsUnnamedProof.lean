/- Rows.LawS0566AListsUnnamedSaid. The row's step is the guide's template at this function. -/
import Derived.Test.YbulkkruRows
import Derived.WalkKit
import Derived.ProofKit
import Derived.OpenShut
import Derived.ChangeOld
import Derived.Below
import Derived.Laws.IdiomArrays
import Derived.Test.YbulkkruRowsA
import Derived.Test.YbulkkruMany
import Derived.Test.YbulkkruLawA
namespace Go.Proofs.Ybulkkru.lawS0566AListsUnnamed
open Go.ChangeShapes Go.WideShapes Go.ChangeAt Go.RowKit
set_option linter.unusedVariables false

theorem own : ownKnob Yba.prog.godebug = none := by kernel_rfl
theorem laidOut : laidOutB Yba.prog = true := by kernel_rfl
theorem cells23 : Yba.prog.cellsOf 23 = 3 := by kernel_rfl
theorem cellsInt : Yba.prog.cellsOf 3 = 1 := by kernel_rfl

theorem list3 {α : Type} (l : List α) (h : l.length = 3) : ∃ a b c, l = [a, b, c] := by
  match l, h with
  | [a, b, c], _ => exact ⟨a, b, c, rfl⟩

set_option maxRecDepth 100000 in
/-- An array of three numbers that came in by value. -/
theorem arr_of {H : Type} {enc : TypeId × Value → H} {W : World} {r : Reach} {b0 base : Nat} {spare : Nat → Bool} {held : Bool} {v : Value} {d : DataW H} {p : List MemPlace}
    (hval : Value.okWide Yba.prog W r b0 23 v) (h : DataW.Trod enc Yba.prog W base spare held 23 v d p) : ∃ x y z, v = .agg #[.int .i64 x, .int .i64 y, .int .i64 z] := by
  obtain ⟨cs, rfl, hsz, _⟩ : ∃ cs, v = .agg cs ∧ cs.size = Yba.prog.cellsOf 23 ∧ Row.okWide Yba.prog W r b0 23 cs := by
    simpa [Value.okWide, Yba.underlying23] using hval
  rw [cells23] at hsz
  obtain ⟨l⟩ := cs
  obtain ⟨c0, c1, c2, rfl⟩ := list3 l hsz
  obtain ⟨fuel, hf⟩ := h
  obtain ⟨y0, y1, y2, m, hx, hy0, hy1, hy2⟩ := trod_array3 Yba.underlying23 cellsInt hf
  obtain ⟨x0, e0, _, _⟩ := DataW.trod_int Yba.underlying3 hy0
  obtain ⟨x1, e1, _, _⟩ := DataW.trod_int Yba.underlying3 hy1
  obtain ⟨x2, e2, _, _⟩ := DataW.trod_int Yba.underlying3 hy2
  simp at e0 e1 e2
  subst e0 e1 e2
  exact ⟨x0, x1, x2, rfl⟩

theorem walk (topic pin at0 at1 at2 depth nb pr gs ks : Int) (oo co ho bo : Option Addr) (n1 n2 n3 n4 ocap ccap hcap bcap : Nat) (w : World)
    (wt : (Lit.int .i32 topic).wf = true) (wnb : (Lit.int .u8 nb).wf = true) (wpr : (Lit.int .u8 pr).wf = true) (wgs : (Lit.int .u8 gs).wf = true) (wks : (Lit.int .u8 ks).wf = true)
    (ro : ∃ Z : List Int, Z.length = n1 ∧ cst.RowI w oo Z) (rc : ∃ Z : List Int, Z.length = n2 ∧ cst.RowI w co Z) (rh : cst.RowH w ho n3) (rb : ∃ Z : List Int, Z.length = n4 ∧ cst.RowB w bo Z) (so : cst.Shp oo n1) (sc : cst.Shp co n2) :
    Calls Yba.prog 3 #[.int .i32 topic, .int .i32 pin, .slice oo n1 ocap, .slice co n2 ccap, .agg #[.int .i64 at0, .int .i64 at1, .int .i64 at2], .slice ho n3 hcap, .int .u8 nb, .slice bo n4 bcap, .int .u8 pr, .int .i32 depth, .int .u8 gs, .int .u8 ks] w
      fun e w' => e = .returned (.bool true) ∧ Below w.heap.size w w' := by
  by_cases hmany : 1024 < n1 ∨ 1024 < n2 ∨ 1024 < n3 ∨ 1024 < n4
  · exact cst.lawA_many _ _ _ _ _ _ _ at0 at1 at2 oo co ho bo n1 n2 n3 n4 ocap ccap hcap bcap w hmany
  obtain ⟨a0, a1⟩ := bounds_u8 wnb
  obtain ⟨b0, b1⟩ := bounds_u8 wpr
  obtain ⟨c0, c1⟩ := bounds_u8 wgs
  obtain ⟨d0, d1⟩ := bounds_u8 wks
  obtain ⟨n, rfl⟩ : ∃ n : Nat, nb = (n : Int) := ⟨nb.toNat, by omega⟩
  obtain ⟨p, rfl⟩ : ∃ n : Nat, pr = (n : Int) := ⟨pr.toNat, by omega⟩
  obtain ⟨g, rfl⟩ : ∃ n : Nat, gs = (n : Int) := ⟨gs.toNat, by omega⟩
  obtain ⟨k, rfl⟩ : ∃ n : Nat, ks = (n : Int) := ⟨ks.toNat, by omega⟩
  obtain ⟨orig, rfl, ro⟩ := ro
  obtain ⟨cur, rfl, rc⟩ := rc
  obtain ⟨bparts, rfl, rb⟩ := rb
  exact cst.lawA_main topic pin at0 at1 at2 depth oo co ho bo orig cur bparts n3 ocap ccap hcap bcap n p g k w (by omega) (by omega) (by omega) (by omega) (by omega) (by omega) (by omega) (by omega) (bounds_i32 wt) ro rc rh rb so sc

set_option maxRecDepth 100000 in
theorem lifted (os : Os) (started : os.Started) (H : Type) (enc : TypeId × Value → H) :
    ReturnsInHanded {} Yba.checked os 3 .any (Rows.lawS0566AListsUnnamedSpec.pre6 enc Yba.prog Yba.f3 Rows.lawS0566AListsUnnamedRow.domain false) (Rows.lawS0566AListsUnnamedSpec.post enc Yba.prog Yba.f3 false true false false) := by
  refine returnsInHanded_of_change (C := Yba.checked) own started (by kernel_rfl) Yba.func3
    (ChangeSpec.witness6 (enc := enc) (C := Yba.checked) false ⟨#[], #[.int .i32 0, .int .i32 0, .slice none 0 0, .slice none 0 0, .agg #[.int .i64 0, .int .i64 0, .int .i64 0], .slice none 0 0, .int .u8 0, .slice none 0 0, .int .u8 0, .int .i32 0, .int .u8 0, .int .u8 0], []⟩ 8 (by kernel_rfl) (by kernel_rfl) (by kernel_rfl) (by kernel_rfl)) ?_
  intro W base args ds gs before hval0 hW hcnd _
  have hval : ∀ (j : Nat) t v, Yba.f3.params[j]? = some t → args[j]? = some v → Value.okWide Yba.prog W .any base t v := hval0
  have hW' := hW
  obtain ⟨p, q, hA0, hV, rfl, hfz, hnd⟩ := hW
  have hA : DataW.TrodAll enc Yba.prog W 0 (fun _ => true) true Yba.f3.params.toList args.toList ds p := hA0
  rw [Yba.params3] at hA hval
  obtain ⟨v0, vs0, d0, ds0, p0, q0, hargs, rfl, rfl, h0, r0⟩ := trodAll_cons hA
  obtain ⟨v1, vs1, d1, ds1, p1, q1, rfl, rfl, rfl, h1, r1⟩ := trodAll_cons r0
  obtain ⟨v2, vs2, d2, ds2, p2, q2, rfl, rfl, rfl, h2, r2⟩ := trodAll_cons r1
  obtain ⟨v3, vs3, d3, ds3, p3, q3, rfl, rfl, rfl, h3, r3⟩ := trodAll_cons r2
  obtain ⟨v4, vs4, d4, ds4, p4, q4, rfl, rfl, rfl, h4, r4⟩ := trodAll_cons r3
  obtain ⟨v5, vs5, d5, ds5, p5, q5, rfl, rfl, rfl, h5, r5⟩ := trodAll_cons r4
  obtain ⟨v6, vs6, d6, ds6, p6, q6, rfl, rfl, rfl, h6, r6⟩ := trodAll_cons r5
  obtain ⟨v7, vs7, d7, ds7, p7, q7, rfl, rfl, rfl, h7, r7⟩ := trodAll_cons r6
  obtain ⟨v8, vs8, d8, ds8, p8, q8, rfl, rfl, rfl, h8, r8⟩ := trodAll_cons r7
  obtain ⟨v9, vs9, d9, ds9, p9, q9, rfl, rfl, rfl, h9, r9⟩ := trodAll_cons r8
  obtain ⟨v10, vs10, d10, ds10, p10, q10, rfl, rfl, rfl, h10, r10⟩ := trodAll_cons r9
  obtain ⟨v11, vs11, d11, ds11, p11, q11, rfl, rfl, rfl, h11, r11⟩ := trodAll_cons r10
  obtain ⟨rfl, rfl, rfl⟩ := trodAll_nil r11
  obtain rfl : args = #[v0, v1, v2, v3, v4, v5, v6, v7, v8, v9, v10, v11] := by cases args; simp_all
  obtain ⟨rfl, rfl⟩ := trodVars_none hV
  obtain ⟨a0, rfl, rfl, rfl, w0⟩ := open_int Yba.underlying21 (hval 0 21 v0 rfl rfl) h0
  obtain ⟨a1, rfl, rfl, rfl, w1⟩ := open_int Yba.underlying21 (hval 1 21 v1 rfl rfl) h1
  obtain ⟨a2, len2, cap2, rfl⟩ := okWide_slice Yba.underlying22 (hval 2 22 v2 rfl rfl)
  have k2 := h2
  have lt2 : ∀ x ∈ p2, x.block < W.heap.size := by obtain ⟨m, hm⟩ := k2; exact DataW.trod_lt m _ _ _ hm
  obtain ⟨hm2, z2⟩ := cst.rowI_in h2
  have sh2 := cst.shp_of (hval 2 22 _ rfl rfl)
  obtain ⟨a3, len3, cap3, rfl⟩ := okWide_slice Yba.underlying22 (hval 3 22 v3 rfl rfl)
  have k3 := h3
  have lt3 : ∀ x ∈ p3, x.block < W.heap.size := by obtain ⟨m, hm⟩ := k3; exact DataW.trod_lt m _ _ _ hm
  obtain ⟨hm3, z3⟩ := cst.rowI_in h3
  have sh3 := cst.shp_of (hval 3 22 _ rfl rfl)
  have k4 := h4
  have lt4 : ∀ x ∈ p4, x.block < W.heap.size := by obtain ⟨m, hm⟩ := k4; exact DataW.trod_lt m _ _ _ hm
  obtain ⟨x4, y4, u4, rfl⟩ := arr_of (hval 4 23 v4 rfl rfl) h4
  obtain ⟨a5, len5, cap5, rfl⟩ := okWide_slice Yba.underlying24 (hval 5 24 v5 rfl rfl)
  have k5 := h5
  have lt5 : ∀ x ∈ p5, x.block < W.heap.size := by obtain ⟨m, hm⟩ := k5; exact DataW.trod_lt m _ _ _ hm
  obtain ⟨hm5, z5⟩ := cst.rowH_in h5
  obtain ⟨a6, rfl, rfl, rfl, w6⟩ := open_int Yba.underlying5 (hval 6 5 v6 rfl rfl) h6
  obtain ⟨a7, len7, cap7, rfl⟩ := okWide_slice Yba.underlying25 (hval 7 25 v7 rfl rfl)
  have k7 := h7
  have lt7 : ∀ x ∈ p7, x.block < W.heap.size := by obtain ⟨m, hm⟩ := k7; exact DataW.trod_lt m _ _ _ hm
  obtain ⟨hm7, z7⟩ := cst.rowB_in h7
  obtain ⟨a8, rfl, rfl, rfl, w8⟩ := open_int Yba.underlying5 (hval 8 5 v8 rfl rfl) h8
  obtain ⟨a9, rfl, rfl, rfl, w9⟩ := open_int Yba.underlying21 (hval 9 21 v9 rfl rfl) h9
  obtain ⟨a10, rfl, rfl, rfl, w10⟩ := open_int Yba.underlying5 (hval 10 5 v10 rfl rfl) h10
  obtain ⟨a11, rfl, rfl, rfl, w11⟩ := open_int Yba.underlying5 (hval 11 5 v11 rfl rfl) h11
  clear hA0 hval0
  refine (walk a0 a1 x4 y4 u4 a9 a6 a8 a10 a11 a2 a3 a5 a7 len2 len3 len5 len7 cap2 cap3 cap5 cap7 W w0 w6 w8 w10 w11 z2 z3 z5 z7 sh2 sh3).mono fun e W' ⟨he, bel⟩ => ?_
  subst he
  exact ⟨_, rfl, _, _, _, [], _, [], hW', trodAll_mk1 (shut_bool Yba.underlying4 _), (trodAll_cons_mk (shut_int Yba.underlying21 w0) (trodAll_cons_mk (shut_int Yba.underlying21 w1) (trodAll_cons_mk (Below.trod laidOut (by kernel_rfl) (of_decide_eq_true (by kernel_rfl)) k2 bel lt2) (trodAll_cons_mk (Below.trod laidOut (by kernel_rfl) (of_decide_eq_true (by kernel_rfl)) k3 bel lt3) (trodAll_cons_mk (Below.trod laidOut (by kernel_rfl) (of_decide_eq_true (by kernel_rfl)) k4 bel lt4) (trodAll_cons_mk (Below.trod laidOut (by kernel_rfl) (of_decide_eq_true (by kernel_rfl)) k5 bel lt5) (trodAll_cons_mk (shut_int Yba.underlying5 w6) (trodAll_cons_mk (Below.trod laidOut (by kernel_rfl) (of_decide_eq_true (by kernel_rfl)) k7 bel lt7) (trodAll_cons_mk (shut_int Yba.underlying5 w8) (trodAll_cons_mk (shut_int Yba.underlying21 w9) (trodAll_cons_mk (shut_int Yba.underlying5 w10) (trodAll_cons_mk (shut_int Yba.underlying5 w11) trodAll_mk0)))))))))))), rfl, bel.frame _, fun h => by cases h⟩

theorem over : Rows.lawS0566AListsUnnamedRow.holds Yba.pinned (OpenSpec.ofChange Rows.lawS0566AListsUnnamedSpec) :=
  OpenClaim.holds_of_wide 3 Yba.f3 rfl rfl rfl rfl rfl rfl rfl ⟨rfl, rfl, rfl, rfl, rfl⟩ rfl rfl rfl rfl rfl (by kernel_rfl) Yba.func3 (by kernel_rfl)
    (of_decide_eq_true (by kernel_rfl)) (by unfold Func.isWrapper; first | (rw [if_pos (by decide +kernel)]; kernel_rfl) | (rw [if_neg (by decide +kernel)]; exact ⟨rfl, rfl⟩))
    (fun os started H enc _ => lifted os started H enc)

/-- ████ THE STATEMENT ████ -/
theorem proved : Rows.LawS0566AListsUnnamedSaid := over
end Go.Proofs.Ybulkkru.lawS0566AListsUnnamed

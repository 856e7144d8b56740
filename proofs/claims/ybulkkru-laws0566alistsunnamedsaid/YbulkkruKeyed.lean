import Derived.Test.YbulkkruFillH
import Derived.Laws.StructEq
namespace Go.Proofs.Ybulkkru.cst
open Go.RowKit Go.Proofs Go.Proofs.Ybulkkru.net
set_option linter.unusedVariables false

/-- Are two nodes two? -/
def nd (k a b k' a' b' : Int) : Bool := match k == k' with | false => true | true => match a == a' with | false => true | true => match b == b' with | false => true | true => false

theorem neq66 (k a b k' a' b' : Int) (w : World) : (binOp .neq 66 (.agg #[.int .u8 k, .int .i32 a, .int .i32 b]) (.agg #[.int .u8 k', .int .i32 a', .int .i32 b'])).run Yba.prog w = .ok (.bool (nd k a b k' a' b')) w := by
  have h : (Op.equalIn 10000 66 (.agg #[.int .u8 k, .int .i32 a, .int .i32 b]) (.agg #[.int .u8 k', .int .i32 a', .int .i32 b'])).run Yba.prog w = .ok (!nd k a b k' a' b') w := by
    rw [run_equalIn_agg w 9999 66 _ _ (by kernel_rfl) (by kernel_rfl)]
    unfold nd
    cases h1 : (k == k') with
    | false => simp [Program.fieldsOf, Yba.underlying66, Op.eqFields, go_sem, Yba.underlying64, Yba.underlying21, h1]
    | true =>
      cases h2 : (a == a') with
      | false => simp [Program.fieldsOf, Yba.underlying66, Op.eqFields, go_sem, Yba.underlying64, Yba.underlying21, h1, h2]
      | true =>
        cases h3 : (b == b') <;> simp [Program.fieldsOf, Yba.underlying66, Op.eqFields, go_sem, Yba.underlying64, Yba.underlying21, h1, h2, h3]
  simp only [binOp]
  simp [Op.equal, Op.maxDepth, h]

theorem mender0_any (N : Nat) (x y z : Value) (w : World) (hu : w.cell? ⟨N, 20, none⟩ = some (.int .i64 0)) :
    Calls Yba.prog 16 #[.pointer (some ⟨N, 0, none⟩), .agg #[x, y, z], .bool false] w fun e w' => e = .returned (.int .i64 2) ∧ Below w.heap.size w w' := by
  have hlt : N < w.heap.size := World.block_lt_of_cell? _ _ hu
  go_enter Yba.func16, Yba.ntmps16
  go_wp2
  go_ret
  exact ⟨rfl, (Below.refl _ _).alloc (Nat.le_refl _) _⟩

/-- What 'keyed' reads of the network and of the search. -/
structure KeyPre (w : World) (S N mb H Bk nB bn c cc : Nat) (po : Option Addr) (t held o a l g0 g1 g2 : Int) : Prop where
  s7 : w.cell? ⟨S, 7, none⟩ = some (.int .u8 g0)
  s8 : w.cell? ⟨S, 8, none⟩ = some (.int .i32 g1)
  s9 : w.cell? ⟨S, 9, none⟩ = some (.int .i32 g2)
  s10 : w.cell? ⟨S, 10, none⟩ = some (.bool false)
  n1 : w.cell? ⟨N, 1, none⟩ = some (.slice (some ⟨Bk, 0, none⟩) nB nB)
  n3 : w.cell? ⟨N, 3, none⟩ = some (.map (some mb))
  n20 : w.cell? ⟨N, 20, none⟩ = some (.int .i64 0)
  bp : w.cell? ⟨Bk, bn * 13 + 3, none⟩ = some (.slice po c cc)
  hbn : bn < nB
  hnB : nB ≤ 8
  hc : c ≤ 3
  look : ∀ w', Below w.heap.size w w' → (Instr.lookup 33 (.map (some mb)) (.agg #[.int .i32 t, .int .i32 bn]) false).run Yba.prog w' = .ok (.pointer (some ⟨H, 0, none⟩)) w'
  hold : HoldAt w H held o a l

theorem KeyPre.keep {w w' : World} {S N mb H Bk nB bn c cc : Nat} {po : Option Addr} {t held o a l g0 g1 g2 : Int} (h : KeyPre w S N mb H Bk nB bn c cc po t held o a l g0 g1 g2) (hb : Below w.heap.size w w') : KeyPre w' S N mb H Bk nB bn c cc po t held o a l g0 g1 g2 :=
  ⟨cell_keeps hb h.s7, cell_keeps hb h.s8, cell_keeps hb h.s9, cell_keeps hb h.s10, cell_keeps hb h.n1, cell_keeps hb h.n3, cell_keeps hb h.n20, cell_keeps hb h.bp, h.hbn, h.hnB, h.hc, fun w2 h2 => h.look w2 (hb.trans (h2.mono hb.size)), h.hold.keep hb⟩

/-- What 'keyed' makes of an entry. -/
def keyQF (e : Q) (g0 g1 g2 held : Int) (c : Nat) : Q := { e with ng := nd e.kind e.a e.b g0 g1 g2, f0 := IntKind.i32.wrap held, f1 := c, md := 2 }

theorem setcell_block {w : World} {A i : Nat} {cs : Array Value} {t : TypeId} {fr : Nat × Nat} (h : w.heap[A]? = some (.cells cs t fr)) (u : Value) : (w.setCell ⟨A, i, none⟩ u).heap[A]? = some (.cells (cs.setIfInBounds i u) t fr) := by
  have hlt := lt_of_block h
  have h' : w.heap[A] = .cells cs t fr := by simpa [Array.getElem?_eq_getElem hlt] using h
  show (w.heap.modify A _)[A]? = _
  rw [Array.getElem?_eq_getElem (by simpa using hlt), Array.getElem_modify_self, h']
  rfl
theorem setcell_other {w : World} {A B i : Nat} (u : Value) (h : A ≠ B) : (w.setCell ⟨B, i, none⟩ u).heap[A]? = w.heap[A]? := by
  show (w.heap.modify B _)[A]? = _
  rw [Array.getElem?_modify, if_neg (Ne.symm h)]

theorem cell_set_ne {w : World} {b i j : Nat} {v : Value} (h : i ≠ j) : (w.setCell ⟨b, i, none⟩ v).cell? ⟨b, j, none⟩ = w.cell? ⟨b, j, none⟩ := by
  apply World.cell?_setCell_other
  intro e
  injection e with _ e
  exact h e

abbrev S7 (w : World) (B S : Nat) (x y z p q r s : Value) : Prop :=
  w.cell? ⟨B, 0, none⟩ = some x ∧ w.cell? ⟨B, 1, none⟩ = some y ∧ w.cell? ⟨B, 2, none⟩ = some z ∧ w.cell? ⟨S, 7, none⟩ = some p ∧ w.cell? ⟨S, 8, none⟩ = some q ∧ w.cell? ⟨S, 9, none⟩ = some r ∧ w.cell? ⟨S, 10, none⟩ = some s
theorem keep7 {w w' : World} {B S : Nat} {x y z p q r s : Value} (h : S7 w B S x y z p q r s) (hb : Below w.heap.size w w') : S7 w' B S x y z p q r s :=
  ⟨cell_keeps hb h.1, cell_keeps hb h.2.1, cell_keeps hb h.2.2.1, cell_keeps hb h.2.2.2.1, cell_keeps hb h.2.2.2.2.1, cell_keeps hb h.2.2.2.2.2.1, cell_keeps hb h.2.2.2.2.2.2⟩
theorem keep7s {w : World} {B S i : Nat} {x y z p q r s u : Value} (h : S7 w B S x y z p q r s) (hi : 3 ≤ i) (hne : S ≠ B) : S7 (w.setCell ⟨B, i, none⟩ u) B S x y z p q r s := by
  have e : ∀ (j : Nat), (⟨B, i, none⟩ : Addr) ≠ ⟨S, j, none⟩ := fun j e => hne (by injection e with e; exact e.symm)
  refine ⟨?_, ?_, ?_, ?_, ?_, ?_, ?_⟩
  · rw [cell_set_ne (by omega)]; exact h.1
  · rw [cell_set_ne (by omega)]; exact h.2.1
  · rw [cell_set_ne (by omega)]; exact h.2.2.1
  · rw [World.cell?_setCell_other _ _ _ _ (e _)]; exact h.2.2.2.1
  · rw [World.cell?_setCell_other _ _ _ _ (e _)]; exact h.2.2.2.2.1
  · rw [World.cell?_setCell_other _ _ _ _ (e _)]; exact h.2.2.2.2.2.1
  · rw [World.cell?_setCell_other _ _ _ _ (e _)]; exact h.2.2.2.2.2.2
theorem keep7t {w : World} {B S i j : Nat} {x y z p q r s u v : Value} (h : S7 w B S x y z p q r s) (hi : 3 ≤ i) (hj : 3 ≤ j) (hne : S ≠ B) : S7 ((w.setCell ⟨B, i, none⟩ u).setCell ⟨B, j, none⟩ v) B S x y z p q r s := keep7s (keep7s h hi hne) hj hne

theorem cellAt {w : World} {B i : Nat} {cs : Array Value} {t : TypeId} {v : Value} (h : w.heap[B]? = some (.cells cs t (0, 0))) (hv : cs[i]? = some v) : w.cell? ⟨B, i, none⟩ = some v := by
  simp [World.cell?, h, hv]
theorem freeAt {w : World} {B i : Nat} {cs : Array Value} {t : TypeId} (h : w.heap[B]? = some (.cells cs t (0, 0))) : w.frozen? ⟨B, i, none⟩ = false := by
  simp [World.frozen?, h]

set_option maxHeartbeats 4000000 in
set_option maxRecDepth 100000 in
theorem keyed_any (S N mb H Bk nB bn c cc : Nat) (po : Option Addr) (t held o a l g0 g1 g2 : Int) (e : Q) (w : World) (hk : e.kind = 3) (ha : e.a = t) (hb : e.b = bn) (HK : KeyPre w S N mb H Bk nB bn c cc po t held o a l g0 g1 g2) :
    Calls Yba.prog 26 #[.pointer (some ⟨S, 0, none⟩), .pointer (some ⟨N, 0, none⟩), .agg (encQ e).toArray] w fun r w' => r = .returned (.agg (encQ (keyQF e g0 g1 g2 held c)).toArray) ∧ Below w.heap.size w w' := by
  obtain ⟨k0, a0, b0, lb, d0, d1, d2, rn, dp, f0, f1, ng, md⟩ := e
  simp only at hk ha hb
  subst hk ha hb
  generalize hR : (encQ (keyQF ⟨3, a0, (bn : Int), lb, d0, d1, d2, rn, dp, f0, f1, ng, md⟩ g0 g1 g2 held c)).toArray = R
  have HE : Hid (R = #[.int .u8 3, .int .i32 a0, .int .i32 bn, .int .i32 lb, .int .i64 d0, .int .i64 d1, .int .i64 d2, .int .i32 rn, .int .i32 dp, .int .i32 (IntKind.i32.wrap held), .int .i32 c, .bool (nd 3 a0 bn g0 g1 g2), .int .i8 2]) := show _ = _ from hR.symm
  clear hR
  have HKP : Hid _ := HK
  have hSlt : S < w.heap.size := World.block_lt_of_cell? _ _ HK.s7
  simp only [encQ]
  clear HK
  go_enter Yba.func26, Yba.ntmps26
  go_upto_region 1 with (fail)
  have hb1 : Below w.heap.size w ((w.alloc (.cells #[.int .u8 3, .int .i32 a0, .int .i32 bn, .int .i32 lb, .int .i64 d0, .int .i64 d1, .int .i64 d2, .int .i32 rn, .int .i32 dp, .int .i32 f0, .int .i32 f1, .bool ng, .int .i8 md] 77)).alloc (.cells #[.int .u8 0, .int .i32 0, .int .i32 0, .int .i32 0, .int .i64 0, .int .i64 0, .int .i64 0, .int .i32 0, .int .i32 0, .int .i32 0, .int .i32 0, .bool false, .int .i8 0] 77)) := ((Below.refl _ _).alloc (Nat.le_refl _) _).alloc (by simp) _
  have hq1 : ((w.alloc (.cells #[.int .u8 3, .int .i32 a0, .int .i32 bn, .int .i32 lb, .int .i64 d0, .int .i64 d1, .int .i64 d2, .int .i32 rn, .int .i32 dp, .int .i32 f0, .int .i32 f1, .bool ng, .int .i8 md] 77)).alloc (.cells #[.int .u8 0, .int .i32 0, .int .i32 0, .int .i32 0, .int .i64 0, .int .i64 0, .int .i64 0, .int .i32 0, .int .i32 0, .int .i32 0, .int .i32 0, .bool false, .int .i8 0] 77)).heap[w.heap.size]? = some (.cells #[.int .u8 3, .int .i32 a0, .int .i32 bn, .int .i32 lb, .int .i64 d0, .int .i64 d1, .int .i64 d2, .int .i32 rn, .int .i32 dp, .int .i32 f0, .int .i32 f1, .bool ng, .int .i8 md] 77 (0, 0)) := (Below.heap_alloc _ _ _ (by simp)).trans (heap_alloc_new _ _)
  have hr1 : ((w.alloc (.cells #[.int .u8 3, .int .i32 a0, .int .i32 bn, .int .i32 lb, .int .i64 d0, .int .i64 d1, .int .i64 d2, .int .i32 rn, .int .i32 dp, .int .i32 f0, .int .i32 f1, .bool ng, .int .i8 md] 77)).alloc (.cells #[.int .u8 0, .int .i32 0, .int .i32 0, .int .i32 0, .int .i64 0, .int .i64 0, .int .i64 0, .int .i32 0, .int .i32 0, .int .i32 0, .int .i32 0, .bool false, .int .i8 0] 77)).heap[w.heap.size + 1]? = some (.cells #[.int .u8 0, .int .i32 0, .int .i32 0, .int .i32 0, .int .i64 0, .int .i64 0, .int .i64 0, .int .i32 0, .int .i32 0, .int .i32 0, .int .i32 0, .bool false, .int .i8 0] 77 (0, 0)) := by
    have := heap_alloc_new (w.alloc (.cells #[.int .u8 3, .int .i32 a0, .int .i32 bn, .int .i32 lb, .int .i64 d0, .int .i64 d1, .int .i64 d2, .int .i32 rn, .int .i32 dp, .int .i32 f0, .int .i32 f1, .bool ng, .int .i8 md] 77)) (.cells #[.int .u8 0, .int .i32 0, .int .i32 0, .int .i32 0, .int .i64 0, .int .i64 0, .int .i64 0, .int .i32 0, .int .i32 0, .int .i32 0, .int .i32 0, .bool false, .int .i8 0] 77)
    simpa using this
  generalize ((w.alloc (.cells #[.int .u8 3, .int .i32 a0, .int .i32 bn, .int .i32 lb, .int .i64 d0, .int .i64 d1, .int .i64 d2, .int .i32 rn, .int .i32 dp, .int .i32 f0, .int .i32 f1, .bool ng, .int .i8 md] 77)).alloc (.cells #[.int .u8 0, .int .i32 0, .int .i32 0, .int .i32 0, .int .i64 0, .int .i64 0, .int .i64 0, .int .i32 0, .int .i32 0, .int .i32 0, .int .i32 0, .bool false, .int .i8 0] 77)) = w1 at hb1 hq1 hr1 ⊢
  have HB1 : Hid (Below w.heap.size w w1) := hb1
  have E1 : Hid (S ≠ w.heap.size) := show _ ≠ _ by omega
  have E2 : Hid (w.heap.size + 1 ≠ w.heap.size) := show _ ≠ _ by omega
  have hs7 : S7 w1 w.heap.size S (.int .u8 3) (.int .i32 a0) (.int .i32 bn) (.int .u8 g0) (.int .i32 g1) (.int .i32 g2) (.bool false) := ⟨cellAt hq1 rfl, cellAt hq1 rfl, cellAt hq1 rfl, cell_keeps hb1 HKP.out.s7, cell_keeps hb1 HKP.out.s8, cell_keeps hb1 HKP.out.s9, cell_keeps hb1 HKP.out.s10⟩
  have HS7 : Hid _ := hs7
  have HQ1 : Hid _ := hq1
  have HR1 : Hid _ := hr1
  have HF : Hid (∀ w2, Below w1.heap.size w1 w2 → Calls Yba.prog 43 #[.pointer (some ⟨N, 0, none⟩), .agg #[.int .u8 3, .int .i32 a0, .int .i32 bn], .bool false] w2 fun e w' => e = .returned (.agg #[.int .i32 (IntKind.i32.wrap held), .int .i32 c]) ∧ Below w2.heap.size w2 w') := fun w2 h12 => by
    have K2 := HKP.out.keep (HB1.out.trans (h12.mono HB1.out.size))
    exact fill_any N mb H Bk nB bn c cc po a0 held o a l w2 K2.n3 K2.n1 K2.hbn K2.hnB K2.hc K2.bp K2.look K2.hold
  have hneq := fun W => neq66 3 a0 bn g0 g1 g2 W
  generalize nd 3 a0 bn g0 g1 g2 = ndv at hneq HE
  clear hb1 hq1 hr1 hs7
  go_region_held3 (fun w' => S7 w' w.heap.size S (.int .u8 3) (.int .i32 a0) (.int .i32 bn) (.int .u8 g0) (.int .i32 g1) (.int .i32 g2) (.bool false))
    (first | with_reducible exact keep7 HS7.out ((Below.refl _ _).drew) | with_reducible exact keep7 HS7.out hb2 | with_reducible exact keep7s (keep7 HS7.out hb2) (by decide) E1.out | with_reducible exact keep7t (keep7s (keep7 HS7.out hb2) (by decide) E1.out) (by decide) (by decide) E1.out)
    (first | (go_at_call 43; refine (HF.out _ ((Below.refl _ _).drew)).mono ?_; rintro e w2 ⟨rfl, hbx⟩; have hb2 : Below w1.heap.size w1 w2 := (Below.refl _ _).drew.trans hbx; have hq2 := (hb2.block _ (lt_of_block HQ1.out)).trans HQ1.out; have q9 := cellAt (i := 9) hq2 rfl; have q10 := cellAt (i := 10) hq2 rfl; have q11 := cellAt (i := 11) hq2 rfl; have z9 := freeAt (i := 9) hq2; have z10 := freeAt (i := 10) hq2; have z11 := freeAt (i := 11) hq2; clear hq2))
  have hb3 : Below w.heap.size w (((w2.setCell ⟨w.heap.size, 11, none⟩ (.bool ndv)).setCell ⟨w.heap.size, 9, none⟩ (.int .i32 (IntKind.i32.wrap held))).setCell ⟨w.heap.size, 10, none⟩ (.int .i32 c)) := (((HB1.out.trans (hb2.mono HB1.out.size)).setCell (Nat.le_refl _) _).setCell (Nat.le_refl _) _).setCell (Nat.le_refl _) _
  have hq3 : (((w2.setCell ⟨w.heap.size, 11, none⟩ (.bool ndv)).setCell ⟨w.heap.size, 9, none⟩ (.int .i32 (IntKind.i32.wrap held))).setCell ⟨w.heap.size, 10, none⟩ (.int .i32 c)).heap[w.heap.size]? = some (.cells #[.int .u8 3, .int .i32 a0, .int .i32 bn, .int .i32 lb, .int .i64 d0, .int .i64 d1, .int .i64 d2, .int .i32 rn, .int .i32 dp, .int .i32 (IntKind.i32.wrap held), .int .i32 c, .bool ndv, .int .i8 md] 77 (0, 0)) := setcell_block (setcell_block (setcell_block ((hb2.block _ (lt_of_block HQ1.out)).trans HQ1.out) _) _) _
  have hr3 : (((w2.setCell ⟨w.heap.size, 11, none⟩ (.bool ndv)).setCell ⟨w.heap.size, 9, none⟩ (.int .i32 (IntKind.i32.wrap held))).setCell ⟨w.heap.size, 10, none⟩ (.int .i32 c)).heap[w.heap.size + 1]? = some (.cells #[.int .u8 0, .int .i32 0, .int .i32 0, .int .i32 0, .int .i64 0, .int .i64 0, .int .i64 0, .int .i32 0, .int .i32 0, .int .i32 0, .int .i32 0, .bool false, .int .i8 0] 77 (0, 0)) := by
    rw [setcell_other _ E2.out, setcell_other _ E2.out, setcell_other _ E2.out]
    exact (hb2.block _ (lt_of_block HR1.out)).trans HR1.out
  have hs3 := keep7t (u := .int .i32 (IntKind.i32.wrap held)) (v := .int .i32 c) (i := 9) (j := 10) (keep7s (u := .bool ndv) (i := 11) (keep7 HS7.out hb2) (by decide) E1.out) (by decide) (by decide) E1.out
  generalize ((w2.setCell ⟨w.heap.size, 11, none⟩ (.bool ndv)).setCell ⟨w.heap.size, 9, none⟩ (.int .i32 (IntKind.i32.wrap held))).setCell ⟨w.heap.size, 10, none⟩ (.int .i32 c) = w3 at hb3 hq3 hr3 hs3 ⊢
  clear q9 q10 q11 z9 z10 z11 hb2 hbx
  have HB3 : Hid (Below w.heap.size w w3) := hb3
  have HS3 : Hid _ := hs3
  have HQ3 : Hid _ := hq3
  have HR3 : Hid _ := hr3
  clear hb3 hs3 hq3 hr3 hneq
  have w8 : IntKind.i8.wrap 2 = 2 := by rfl
  have HM : Hid (∀ w2, Below w3.heap.size w3 w2 → Calls Yba.prog 16 #[.pointer (some ⟨N, 0, none⟩), .agg #[.int .u8 3, .int .i32 a0, .int .i32 bn], .bool false] w2 fun e w' => e = .returned (.int .i64 2) ∧ Below w2.heap.size w2 w') := fun w2 h12 => mender0_any N _ _ _ w2 (cell_keeps (HB3.out.trans (h12.mono HB3.out.size)) HKP.out.n20)
  go_wp2_with fail
  go_region_held3 (fun w' => S7 w' w.heap.size S (.int .u8 3) (.int .i32 a0) (.int .i32 bn) (.int .u8 g0) (.int .i32 g1) (.int .i32 g2) (.bool false))
    (first | with_reducible exact keep7 HS3.out ((Below.refl _ _).drew) | with_reducible exact keep7 HS3.out hb4 | with_reducible exact keep7s (keep7 HS3.out hb4) (by decide) E1.out)
    (first | (go_at_call 16; refine (HM.out _ ((Below.refl _ _).drew)).mono ?_; rintro e w4 ⟨rfl, hbx⟩; have hb4 : Below w3.heap.size w3 w4 := (Below.refl _ _).drew.trans hbx; have hq2 := (hb4.block _ (lt_of_block HQ3.out)).trans HQ3.out; have q12 := cellAt (i := 12) hq2 rfl; have z12 := freeAt (i := 12) hq2; clear hq2))
  have hb5 : Below w.heap.size w (w4.setCell ⟨w.heap.size, 12, none⟩ (.int .i8 2)) := (HB3.out.trans (hb4.mono HB3.out.size)).setCell (Nat.le_refl _) _
  have hq5 : (w4.setCell ⟨w.heap.size, 12, none⟩ (.int .i8 2)).heap[w.heap.size]? = some (.cells #[.int .u8 3, .int .i32 a0, .int .i32 bn, .int .i32 lb, .int .i64 d0, .int .i64 d1, .int .i64 d2, .int .i32 rn, .int .i32 dp, .int .i32 (IntKind.i32.wrap held), .int .i32 c, .bool ndv, .int .i8 2] 77 (0, 0)) := setcell_block ((hb4.block _ (lt_of_block HQ3.out)).trans HQ3.out) _
  have hr5 : (w4.setCell ⟨w.heap.size, 12, none⟩ (.int .i8 2)).heap[w.heap.size + 1]? = some (.cells #[.int .u8 0, .int .i32 0, .int .i32 0, .int .i32 0, .int .i64 0, .int .i64 0, .int .i64 0, .int .i32 0, .int .i32 0, .int .i32 0, .int .i32 0, .bool false, .int .i8 0] 77 (0, 0)) := by
    rw [setcell_other _ E2.out]
    exact (hb4.block _ (lt_of_block HR3.out)).trans HR3.out
  generalize w4.setCell ⟨w.heap.size, 12, none⟩ (.int .i8 2) = w5 at hb5 hq5 hr5 ⊢
  clear q12 z12 hb4 hbx
  have HB5 : Hid _ := hb5
  have HQ5 : Hid _ := hq5
  have HR5 : Hid _ := hr5
  clear hb5 hq5 hr5
  have u0 : w5.cell? ⟨w.heap.size, 0, none⟩ = some (.int .u8 3) := cellAt HQ5.out rfl
  have x0 : w5.cell? ⟨w.heap.size + 1, 0, none⟩ = some (.int .u8 0) := cellAt HR5.out rfl
  have y0 : w5.frozen? ⟨w.heap.size + 1, 0, none⟩ = false := freeAt HR5.out
  have u1 : w5.cell? ⟨w.heap.size, 1, none⟩ = some (.int .i32 a0) := cellAt HQ5.out rfl
  have x1 : w5.cell? ⟨w.heap.size + 1, 1, none⟩ = some (.int .i32 0) := cellAt HR5.out rfl
  have y1 : w5.frozen? ⟨w.heap.size + 1, 1, none⟩ = false := freeAt HR5.out
  have u2 : w5.cell? ⟨w.heap.size, 2, none⟩ = some (.int .i32 bn) := cellAt HQ5.out rfl
  have x2 : w5.cell? ⟨w.heap.size + 1, 2, none⟩ = some (.int .i32 0) := cellAt HR5.out rfl
  have y2 : w5.frozen? ⟨w.heap.size + 1, 2, none⟩ = false := freeAt HR5.out
  have u3 : w5.cell? ⟨w.heap.size, 3, none⟩ = some (.int .i32 lb) := cellAt HQ5.out rfl
  have x3 : w5.cell? ⟨w.heap.size + 1, 3, none⟩ = some (.int .i32 0) := cellAt HR5.out rfl
  have y3 : w5.frozen? ⟨w.heap.size + 1, 3, none⟩ = false := freeAt HR5.out
  have u4 : w5.cell? ⟨w.heap.size, 4, none⟩ = some (.int .i64 d0) := cellAt HQ5.out rfl
  have x4 : w5.cell? ⟨w.heap.size + 1, 4, none⟩ = some (.int .i64 0) := cellAt HR5.out rfl
  have y4 : w5.frozen? ⟨w.heap.size + 1, 4, none⟩ = false := freeAt HR5.out
  have u5 : w5.cell? ⟨w.heap.size, 5, none⟩ = some (.int .i64 d1) := cellAt HQ5.out rfl
  have x5 : w5.cell? ⟨w.heap.size + 1, 5, none⟩ = some (.int .i64 0) := cellAt HR5.out rfl
  have y5 : w5.frozen? ⟨w.heap.size + 1, 5, none⟩ = false := freeAt HR5.out
  have u6 : w5.cell? ⟨w.heap.size, 6, none⟩ = some (.int .i64 d2) := cellAt HQ5.out rfl
  have x6 : w5.cell? ⟨w.heap.size + 1, 6, none⟩ = some (.int .i64 0) := cellAt HR5.out rfl
  have y6 : w5.frozen? ⟨w.heap.size + 1, 6, none⟩ = false := freeAt HR5.out
  have u7 : w5.cell? ⟨w.heap.size, 7, none⟩ = some (.int .i32 rn) := cellAt HQ5.out rfl
  have x7 : w5.cell? ⟨w.heap.size + 1, 7, none⟩ = some (.int .i32 0) := cellAt HR5.out rfl
  have y7 : w5.frozen? ⟨w.heap.size + 1, 7, none⟩ = false := freeAt HR5.out
  have u8 : w5.cell? ⟨w.heap.size, 8, none⟩ = some (.int .i32 dp) := cellAt HQ5.out rfl
  have x8 : w5.cell? ⟨w.heap.size + 1, 8, none⟩ = some (.int .i32 0) := cellAt HR5.out rfl
  have y8 : w5.frozen? ⟨w.heap.size + 1, 8, none⟩ = false := freeAt HR5.out
  have u9 : w5.cell? ⟨w.heap.size, 9, none⟩ = some (.int .i32 (IntKind.i32.wrap held)) := cellAt HQ5.out rfl
  have x9 : w5.cell? ⟨w.heap.size + 1, 9, none⟩ = some (.int .i32 0) := cellAt HR5.out rfl
  have y9 : w5.frozen? ⟨w.heap.size + 1, 9, none⟩ = false := freeAt HR5.out
  have u10 : w5.cell? ⟨w.heap.size, 10, none⟩ = some (.int .i32 c) := cellAt HQ5.out rfl
  have x10 : w5.cell? ⟨w.heap.size + 1, 10, none⟩ = some (.int .i32 0) := cellAt HR5.out rfl
  have y10 : w5.frozen? ⟨w.heap.size + 1, 10, none⟩ = false := freeAt HR5.out
  have u11 : w5.cell? ⟨w.heap.size, 11, none⟩ = some (.bool ndv) := cellAt HQ5.out rfl
  have x11 : w5.cell? ⟨w.heap.size + 1, 11, none⟩ = some (.bool false) := cellAt HR5.out rfl
  have y11 : w5.frozen? ⟨w.heap.size + 1, 11, none⟩ = false := freeAt HR5.out
  have u12 : w5.cell? ⟨w.heap.size, 12, none⟩ = some (.int .i8 2) := cellAt HQ5.out rfl
  have x12 : w5.cell? ⟨w.heap.size + 1, 12, none⟩ = some (.int .i8 0) := cellAt HR5.out rfl
  have y12 : w5.frozen? ⟨w.heap.size + 1, 12, none⟩ = false := freeAt HR5.out
  go_wp2
  refine bodyPost_ret (v := .agg R) (by rw [HE.out]; simp [results, Yba.results26, go_sem, *]; rw [IntKind.wrap_i32]; unfold wrap32; rfl) rfl ⟨rfl, ?_⟩
  exact ((((((((((((HB5.out.setCell (Nat.le_succ _) _).setCell (Nat.le_succ _) _).setCell (Nat.le_succ _) _).setCell (Nat.le_succ _) _).setCell (Nat.le_succ _) _).setCell (Nat.le_succ _) _).setCell (Nat.le_succ _) _).setCell (Nat.le_succ _) _).setCell (Nat.le_succ _) _).setCell (Nat.le_succ _) _).setCell (Nat.le_succ _) _).setCell (Nat.le_succ _) _).setCell (Nat.le_succ _) _
end Go.Proofs.Ybulkkru.cst

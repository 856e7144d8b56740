import Derived.Test.YbulkkruRowQ
import Derived.Deep.DeepCutAuto
namespace Go.Proofs.Ybulkkru.cst
open Go.RowKit Go.Proofs Go.Proofs.Ybulkkru.net
open Go.Sort (HoldsK)
set_option linter.unusedVariables false

theorem rset {w : World} {R o : Nat} {kd fm bk sp pl en : Int} (h : RunAt w R o kd fm bk sp pl en) (kd' pl' : Int) : RunAt ((w.setCell ⟨R, o, none⟩ (.int .u8 kd')).setCell ⟨R, o + 4, none⟩ (.int .i32 pl')) R o kd' fm bk sp pl' en :=
  ⟨by rw [cell_set_ne (by omega)]; exact World.cell?_setCell_same _ _ _ (by rw [h.c0]), by rw [cell_set_ne (by omega), cell_set_ne (by omega)]; exact h.c1, by rw [cell_set_ne (by omega), cell_set_ne (by omega)]; exact h.c2, by rw [cell_set_ne (by omega), cell_set_ne (by omega)]; exact h.c3, World.cell?_setCell_same _ _ _ (by rw [cell_set_ne (by omega), h.c4]), by rw [cell_set_ne (by omega), cell_set_ne (by omega)]; exact h.c5⟩

theorem frozen_of {w w' : World} (hb : Below w.heap.size w w') {R x : Nat} (hlt : R < w.heap.size) (h : w.frozen? ⟨R, x, none⟩ = false) : w'.frozen? ⟨R, x, none⟩ = false :=
  (World.frozen?_of_block (a := ⟨R, x, none⟩) (hb.block R hlt)).trans h
theorem want_named {topic pin a0 a1 a2 g0 g1 g2 rn dp : Int} {np : Nat → Nat} {orig cur : List Int} {ths : List Th} {j : Nat} (hj : j < ths.length) (h : namedB pin (ths.getD j default).b orig cur = true) :
    wantL topic pin a0 a1 a2 g0 g1 g2 rn dp np orig cur (ths.take (j + 1)) = wantL topic pin a0 a1 a2 g0 g1 g2 rn dp np orig cur (ths.take j) := by
  rw [take_snoc ths default j hj]
  unfold wantL
  rw [List.filter_append, List.map_append]
  have e : unnamed pin orig cur (ths.getD j default) = false := by rw [unnamed, h]; rfl
  rw [List.filter_cons_of_neg (by rw [e]; simp)]
  simp
theorem want_new {topic pin a0 a1 a2 g0 g1 g2 rn dp : Int} {np : Nat → Nat} {orig cur : List Int} {ths : List Th} {j : Nat} (hj : j < ths.length) (h : namedB pin (ths.getD j default).b orig cur = false) :
    wantL topic pin a0 a1 a2 g0 g1 g2 rn dp np orig cur (ths.take (j + 1)) = wantL topic pin a0 a1 a2 g0 g1 g2 rn dp np orig cur (ths.take j) ++ [entQ topic a0 a1 a2 g0 g1 g2 rn dp np (ths.getD j default)] := by
  rw [take_snoc ths default j hj]
  unfold wantL
  rw [List.filter_append, List.map_append]
  have e : unnamed pin orig cur (ths.getD j default) = true := by rw [unnamed, h]; rfl
  rw [List.filter_cons_of_pos e]
  rfl
theorem want_len {topic pin a0 a1 a2 g0 g1 g2 rn dp : Int} {np : Nat → Nat} {orig cur : List Int} {ths : List Th} : (wantL topic pin a0 a1 a2 g0 g1 g2 rn dp np orig cur ths).length ≤ ths.length := by
  unfold wantL
  rw [List.length_map]
  exact List.length_filter_le _ _
theorem getD_mem {ths : List Th} {j : Nat} (h : j < ths.length) : ths.getD j default ∈ ths := by
  rw [List.getD_eq_getElem?_getD, List.getElem?_eq_getElem h]
  exact List.getElem_mem _
theorem li_start {w1 : World} {S R M Lb P k : Nat} {pre : List Q} {g0 g1 g2 : Int} (hS : SAt w1 S R M (.slice (some ⟨Lb, 0, none⟩) P P) (.slice none 0 0) g0 g1 g2 3) (hR : RunAt w1 R (k * 6) 2 7 0 0 0 0) (hRf : ∀ x, w1.frozen? ⟨R, x, none⟩ = false) (hSR : S ≠ R) (hLR : Lb ≠ R) (hpre : pre.length = P)
    (hLc : ∀ j u, (pre.flatMap encQ)[j]? = some u → w1.cell? ⟨Lb, j, none⟩ = some u) : LI w1.heap.size w1 ((w1.setCell ⟨R, k * 6, none⟩ (.int .u8 3)).setCell ⟨R, k * 6 + 4, none⟩ (.int .i32 P)).drew.drew S R M Lb P k pre [] (.slice (some ⟨Lb, 0, none⟩) P P) g0 g1 g2 3 P 0 := by
  refine ⟨?_, ?_, ?_, ?_, ?_, fun x v hx hv => ?_⟩
  · exact ((((Kept.refl _ _).setCell (Or.inl (by simp)) _).setCell (Or.inl (by simp)) _).drew).drew
  · exact hS.of_block (by show ((w1.setCell _ _).setCell _ _).heap[S]? = _; rw [setcell_other _ hSR, setcell_other _ hSR])
  · exact (rset hR 3 P).of_block rfl
  · intro x
    show ((w1.setCell _ _).setCell _ _).frozen? _ = false
    rw [World.frozen?_setCell, World.frozen?_setCell]
    exact hRf x
  · refine Or.inl ⟨rfl, rfl, ?_, ?_⟩
    · simp only [List.append_nil]
      have : ∀ l : List Q, (l.flatMap encQ).length = l.length * 13 := fun l => by
        induction l with
        | nil => rfl
        | cons x l ih => simp [List.flatMap_cons, ih, encQ_len]; omega
      rw [this, hpre]
    · intro j u hj
      show ((w1.setCell _ _).setCell _ _).cell? _ = _
      simp only [List.append_nil] at hj
      rw [World.cell?_setCell_other _ _ _ _ (fun e => hLR (by injection e with e; exact e.symm)), World.cell?_setCell_other _ _ _ _ (fun e => hLR (by injection e with e; exact e.symm))]
      exact hLc j u hj
  · show ((w1.setCell _ _).setCell _ _).cell? _ = _
    rw [cell_set_ne (by omega), cell_set_ne (by omega)]
    exact hv

theorem k2 {w w' : World} {a b : Addr} {x y : Value} (h : w.cell? a = some x ∧ w.cell? b = some y) (hb : Below w.heap.size w w') : w'.cell? a = some x ∧ w'.cell? b = some y ∧ Below w.heap.size w w' := ⟨cell_keeps hb h.1, cell_keeps hb h.2, hb⟩
theorem l2 {w w' : World} {a b : Addr} {x y : Value} (h : w'.cell? a = some x ∧ w'.cell? b = some y ∧ Below w.heap.size w w') : Below w.heap.size w w' := h.2.2
theorem bl_alloc {w w' : World} {o : Obj} (h : Below w.heap.size w w') : Below w.heap.size w (w'.alloc o) := h.alloc h.size _
theorem bl_set3 {w w' : World} {A i1 i2 i3 : Nat} {x y z : Value} (h : Below w.heap.size w w') (hA : w.heap.size ≤ A) : Below w.heap.size w (((w'.setCell ⟨A, i1, none⟩ x).setCell ⟨A, i2, none⟩ y).setCell ⟨A, i3, none⟩ z) := ((h.setCell hA _).setCell hA _).setCell hA _
theorem k12 {w w' : World} {p0 p1 p2 p3 p4 p5 p6 p7 p8 p9 p10 p11 : Addr} {x0 x1 x2 x3 x4 x5 x6 x7 x8 x9 x10 x11 : Value} (h : w.cell? p0 = some x0 ∧ w.cell? p1 = some x1 ∧ w.cell? p2 = some x2 ∧ w.cell? p3 = some x3 ∧ w.cell? p4 = some x4 ∧ w.cell? p5 = some x5 ∧ w.cell? p6 = some x6 ∧ w.cell? p7 = some x7 ∧ w.cell? p8 = some x8 ∧ w.cell? p9 = some x9 ∧ w.cell? p10 = some x10 ∧ w.cell? p11 = some x11) (hb : Below w.heap.size w w') : w'.cell? p0 = some x0 ∧ w'.cell? p1 = some x1 ∧ w'.cell? p2 = some x2 ∧ w'.cell? p3 = some x3 ∧ w'.cell? p4 = some x4 ∧ w'.cell? p5 = some x5 ∧ w'.cell? p6 = some x6 ∧ w'.cell? p7 = some x7 ∧ w'.cell? p8 = some x8 ∧ w'.cell? p9 = some x9 ∧ w'.cell? p10 = some x10 ∧ w'.cell? p11 = some x11 ∧ Below w.heap.size w w' :=
  ⟨cell_keeps hb h.1, cell_keeps hb h.2.1, cell_keeps hb h.2.2.1, cell_keeps hb h.2.2.2.1, cell_keeps hb h.2.2.2.2.1, cell_keeps hb h.2.2.2.2.2.1, cell_keeps hb h.2.2.2.2.2.2.1, cell_keeps hb h.2.2.2.2.2.2.2.1, cell_keeps hb h.2.2.2.2.2.2.2.2.1, cell_keeps hb h.2.2.2.2.2.2.2.2.2.1, cell_keeps hb h.2.2.2.2.2.2.2.2.2.2.1, cell_keeps hb h.2.2.2.2.2.2.2.2.2.2.2, hb⟩
theorem l12 {w w' : World} {p0 p1 p2 p3 p4 p5 p6 p7 p8 p9 p10 p11 : Addr} {x0 x1 x2 x3 x4 x5 x6 x7 x8 x9 x10 x11 : Value} (h : w'.cell? p0 = some x0 ∧ w'.cell? p1 = some x1 ∧ w'.cell? p2 = some x2 ∧ w'.cell? p3 = some x3 ∧ w'.cell? p4 = some x4 ∧ w'.cell? p5 = some x5 ∧ w'.cell? p6 = some x6 ∧ w'.cell? p7 = some x7 ∧ w'.cell? p8 = some x8 ∧ w'.cell? p9 = some x9 ∧ w'.cell? p10 = some x10 ∧ w'.cell? p11 = some x11 ∧ Below w.heap.size w w') : Below w.heap.size w w' := h.2.2.2.2.2.2.2.2.2.2.2.2
theorem qat_block {w : World} {A : Nat} {e : Q} (h : w.heap[A]? = some (.cells (encQ e).toArray 77 (0, 0))) : QAt w A 0 e := by
  intro i hi
  have : i < (encQ e).length := hi
  rw [Nat.zero_add, List.getElem?_eq_getElem this]
  exact cellAt h (by rw [List.getElem?_toArray, List.getElem?_eq_getElem this])
theorem tailZ {P : Prop} {w0 w w' : World} {A : Nat} (h0 : Below w0.heap.size w0 w) (hA : w.heap[A]? = some (.cells #[.int .u8 0, .int .i32 0, .int .i32 0, .int .i32 0, .int .i64 0, .int .i64 0, .int .i64 0, .int .i32 0, .int .i32 0, .int .i32 0, .int .i32 0, .bool false, .int .i8 0] 77 (0, 0))) (hb : Below w.heap.size w w') (k : Below w0.heap.size w0 w' → Hid (w'.heap[A]? = some (.cells #[.int .u8 0, .int .i32 0, .int .i32 0, .int .i32 0, .int .i64 0, .int .i64 0, .int .i64 0, .int .i32 0, .int .i32 0, .int .i32 0, .int .i32 0, .bool false, .int .i8 0] 77 (0, 0))) → w'.cell? ⟨A, 0, none⟩ = some (.int .u8 0) → w'.cell? ⟨A, 1, none⟩ = some (.int .i32 0) → w'.cell? ⟨A, 2, none⟩ = some (.int .i32 0) → w'.cell? ⟨A, 3, none⟩ = some (.int .i32 0) → w'.cell? ⟨A, 4, none⟩ = some (.int .i64 0) → w'.cell? ⟨A, 5, none⟩ = some (.int .i64 0) → w'.cell? ⟨A, 6, none⟩ = some (.int .i64 0) → w'.cell? ⟨A, 7, none⟩ = some (.int .i32 0) → w'.cell? ⟨A, 8, none⟩ = some (.int .i32 0) → w'.cell? ⟨A, 9, none⟩ = some (.int .i32 0) → w'.cell? ⟨A, 10, none⟩ = some (.int .i32 0) → w'.cell? ⟨A, 11, none⟩ = some (.bool false) → w'.cell? ⟨A, 12, none⟩ = some (.int .i8 0) → w'.frozen? ⟨A, 0, none⟩ = false → w'.frozen? ⟨A, 1, none⟩ = false → w'.frozen? ⟨A, 2, none⟩ = false → w'.frozen? ⟨A, 3, none⟩ = false → w'.frozen? ⟨A, 4, none⟩ = false → w'.frozen? ⟨A, 5, none⟩ = false → w'.frozen? ⟨A, 6, none⟩ = false → w'.frozen? ⟨A, 7, none⟩ = false → w'.frozen? ⟨A, 8, none⟩ = false → w'.frozen? ⟨A, 9, none⟩ = false → w'.frozen? ⟨A, 10, none⟩ = false → w'.frozen? ⟨A, 11, none⟩ = false → w'.frozen? ⟨A, 12, none⟩ = false → P) : P := by
  have hq : w'.heap[A]? = some (.cells #[.int .u8 0, .int .i32 0, .int .i32 0, .int .i32 0, .int .i64 0, .int .i64 0, .int .i64 0, .int .i32 0, .int .i32 0, .int .i32 0, .int .i32 0, .bool false, .int .i8 0] 77 (0, 0)) := (hb.block _ (lt_of_block hA)).trans hA
  exact k (h0.trans (hb.mono h0.size)) hq (cellAt hq rfl) (cellAt hq rfl) (cellAt hq rfl) (cellAt hq rfl) (cellAt hq rfl) (cellAt hq rfl) (cellAt hq rfl) (cellAt hq rfl) (cellAt hq rfl) (cellAt hq rfl) (cellAt hq rfl) (cellAt hq rfl) (cellAt hq rfl) (freeAt hq) (freeAt hq) (freeAt hq) (freeAt hq) (freeAt hq) (freeAt hq) (freeAt hq) (freeAt hq) (freeAt hq) (freeAt hq) (freeAt hq) (freeAt hq) (freeAt hq)
theorem tailP {P : Prop} {w w' : World} (hb : Below w.drew.heap.size w.drew w') (k : Below w.heap.size w w' → P) : P := k ((Below.refl _ _).drew.trans hb)
theorem bl_set13 {w w' : World} {A : Nat} {x0 x1 x2 x3 x4 x5 x6 x7 x8 x9 x10 x11 x12 : Value} (h : Below w.heap.size w w') (hA : w.heap.size ≤ A) : Below w.heap.size w (((((((((((((w'.setCell ⟨A, 0, none⟩ x0).setCell ⟨A, 1, none⟩ x1).setCell ⟨A, 2, none⟩ x2).setCell ⟨A, 3, none⟩ x3).setCell ⟨A, 4, none⟩ x4).setCell ⟨A, 5, none⟩ x5).setCell ⟨A, 6, none⟩ x6).setCell ⟨A, 7, none⟩ x7).setCell ⟨A, 8, none⟩ x8).setCell ⟨A, 9, none⟩ x9).setCell ⟨A, 10, none⟩ x10).setCell ⟨A, 11, none⟩ x11).setCell ⟨A, 12, none⟩ x12) := (((((((((((((h.setCell hA _).setCell hA _).setCell hA _).setCell hA _).setCell hA _).setCell hA _).setCell hA _).setCell hA _).setCell hA _).setCell hA _).setCell hA _).setCell hA _).setCell hA _)
theorem set13 {w : World} {A : Nat} (h : w.heap[A]? = some (.cells #[.int .u8 0, .int .i32 0, .int .i32 0, .int .i32 0, .int .i64 0, .int .i64 0, .int .i64 0, .int .i32 0, .int .i32 0, .int .i32 0, .int .i32 0, .bool false, .int .i8 0] 77 (0, 0))) (x0 x1 x2 x3 x4 x5 x6 x7 x8 x9 x10 x11 x12 : Value) : (((((((((((((w.setCell ⟨A, 0, none⟩ x0).setCell ⟨A, 1, none⟩ x1).setCell ⟨A, 2, none⟩ x2).setCell ⟨A, 3, none⟩ x3).setCell ⟨A, 4, none⟩ x4).setCell ⟨A, 5, none⟩ x5).setCell ⟨A, 6, none⟩ x6).setCell ⟨A, 7, none⟩ x7).setCell ⟨A, 8, none⟩ x8).setCell ⟨A, 9, none⟩ x9).setCell ⟨A, 10, none⟩ x10).setCell ⟨A, 11, none⟩ x11).setCell ⟨A, 12, none⟩ x12).heap[A]? = some (.cells #[x0, x1, x2, x3, x4, x5, x6, x7, x8, x9, x10, x11, x12] 77 (0, 0)) := by
  have h2 := (setcell_block (i := 12) (setcell_block (i := 11) (setcell_block (i := 10) (setcell_block (i := 9) (setcell_block (i := 8) (setcell_block (i := 7) (setcell_block (i := 6) (setcell_block (i := 5) (setcell_block (i := 4) (setcell_block (i := 3) (setcell_block (i := 2) (setcell_block (i := 1) (setcell_block (i := 0) h x0) x1) x2) x3) x4) x5) x6) x7) x8) x9) x10) x11) x12)
  simp only [List.setIfInBounds_toArray, List.set_cons_zero, List.set_cons_succ] at h2
  exact h2
/-- A call of a Go function by its contract, as one step of a region. -/
theorem step_callL {ops : Array Oper} {o : Oper} {a : Act} {w : World} {K : Act → World → Prop} {Q' : Exit → Act → World → Prop} {E : Prop} {f : Nat} {args : Array Value} {v : Value} (hg : o.guard = none) (hc : Calls Yba.prog f args w fun r w'' => r = .returned v ∧ Below w.heap.size w w'') (hv : (execOp a.eval o).run Yba.prog w = .ok (.enter f args) w)
    (hK : ∀ w'', Below w.heap.size w w'' → K (a.put o.dst v) w'') : if Region.wanted o (yielded ops a.tmps) = true then Oper.wp Yba.prog o a w K Q' else E := by
  have hw : Region.wanted o (yielded ops a.tmps) = true := by simp [Region.wanted, hg]
  rw [if_pos hw]
  unfold Oper.wp
  rw [hv, Oper.upon_enter]
  refine hc.mono ?_
  rintro e w' ⟨rfl, hb⟩
  exact hK w' hb
theorem LI.setEnd {b1 : Nat} {w1 wr : World} {S R M Lb P k : Nat} {pre es : List Q} {lv : Value} {g0 g1 g2 wk pl en : Int} (h : LI b1 w1 wr S R M Lb P k pre es lv g0 g1 g2 wk pl en) (hSR : S ≠ R) (hLR : Lb ≠ R) (hR : R < b1) (en' : Int) : LI b1 w1 (wr.setCell ⟨R, k * 6 + 5, none⟩ (.int .i32 en')) S R M Lb P k pre es lv g0 g1 g2 wk pl en' where
  kept := h.kept.setCell (Or.inl (by simp)) _
  sat := h.sat.of_block (setcell_other _ hSR)
  run := ⟨by rw [cell_set_ne (by omega)]; exact h.run.c0, by rw [cell_set_ne (by omega)]; exact h.run.c1, by rw [cell_set_ne (by omega)]; exact h.run.c2, by rw [cell_set_ne (by omega)]; exact h.run.c3, by rw [cell_set_ne (by omega)]; exact h.run.c4, World.cell?_setCell_same _ _ _ (by rw [h.run.c5])⟩
  rfr x := by rw [World.frozen?_setCell]; exact h.rfr x
  lst := h.lst.set hR hLR
  oth x v hx hv := by rw [cell_set_ne (by omega)]; exact h.oth x v hx hv
theorem LI.setWork {b1 : Nat} {w1 wr : World} {S R M Lb P k : Nat} {pre es : List Q} {lv : Value} {g0 g1 g2 wk pl en : Int} (h : LI b1 w1 wr S R M Lb P k pre es lv g0 g1 g2 wk pl en) (hSR : S ≠ R) (hLS : Lb ≠ S) (hS : S < b1) (wk' : Int) : LI b1 w1 (wr.setCell ⟨S, 15, none⟩ (.int .i64 wk')) S R M Lb P k pre es lv g0 g1 g2 wk' pl en where
  kept := h.kept.setCell (Or.inl (by simp)) _
  sat := ⟨by rw [cell_set_ne (by omega)]; exact h.sat.s2, by rw [cell_set_ne (by omega)]; exact h.sat.s3, by rw [cell_set_ne (by omega)]; exact h.sat.s4, by rw [cell_set_ne (by omega)]; exact h.sat.s6, by rw [cell_set_ne (by omega)]; exact h.sat.s7, by rw [cell_set_ne (by omega)]; exact h.sat.s8, by rw [cell_set_ne (by omega)]; exact h.sat.s9, by rw [cell_set_ne (by omega)]; exact h.sat.s10, World.cell?_setCell_same _ _ _ (by rw [h.sat.s15]), fun x => by rw [World.frozen?_setCell]; exact h.sat.fr x⟩
  run := h.run.of_block (setcell_other _ (Ne.symm hSR))
  rfr x := by rw [World.frozen?_setCell]; exact h.rfr x
  lst := h.lst.set hS hLS
  oth x v hx hv := by rw [World.cell?_setCell_other _ _ _ _ (fun e => hSR (by injection e))]; exact h.oth x v hx hv
theorem keep3c {w w' : World} {a b c : Addr} {x y z : Value} (h : w.cell? a = some x ∧ w.cell? b = some y ∧ w.cell? c = some z) (hb : Below w.heap.size w w') : w'.cell? a = some x ∧ w'.cell? b = some y ∧ w'.cell? c = some z := ⟨cell_keeps hb h.1, cell_keeps hb h.2.1, cell_keeps hb h.2.2⟩

/-- 'init' over the listed part of the row. -/
def Inited (w5 w' : World) (lg P : Nat) (W : List Q) : Prop := (W = [] ∧ w' = w5) ∨ (W ≠ [] ∧ SWK encQ 13 w5 lg (P * 13) (initF (W.length / 2) W.toArray) w')

structure LF (w1 w' : World) (S R M P k lg lcap : Nat) (pre : List Q) (D : Array Q) (qv : Value) (g0 g1 g2 wk : Int) : Prop where
  kept : Kept w1 w' [S, R]
  sat : SAt w' S R M (.slice (some ⟨lg, 0, none⟩) (P + D.size) lcap) qv g0 g1 g2 wk
  run : RunAt w' R (k * 6) 3 7 0 0 P ((P : Int) + (D.size : Int))
  oth : ∀ x v, (x < k * 6 ∨ k * 6 + 6 ≤ x) → w1.cell? ⟨R, x, none⟩ = some v → w'.cell? ⟨R, x, none⟩ = some v
  ahead : ∀ i, i < P → QAt w' lg (i * 13) (pre.getD i default)
  ents : ∀ i, i < D.size → QAt w' lg ((P + i) * 13) D[i]!
  cap : P + D.size ≤ lcap

theorem LF.keep {w1 w' w'' : World} {S R M P k lg lcap : Nat} {pre : List Q} {D : Array Q} {qv : Value} {g0 g1 g2 wk : Int} (h : LF w1 w' S R M P k lg lcap pre D qv g0 g1 g2 wk) (hb : Below w'.heap.size w' w'') : LF w1 w'' S R M P k lg lcap pre D qv g0 g1 g2 wk :=
  ⟨h.kept.below' hb, h.sat.keep hb, h.run.keep hb, fun x v hx hv => cell_keeps hb (h.oth x v hx hv), fun i hi => (h.ahead i hi).keep hb, fun i hi => (h.ents i hi).keep hb, h.cap⟩

theorem LF.of {b1 : Nat} {w1 w5 w6 : World} {S R M Lb P k lg lcap : Nat} {pre W : List Q} {g0 g1 g2 wk : Int} (h : LI b1 w1 w5 S R M Lb P k pre W (.slice (some ⟨lg, 0, none⟩) (P + W.length) lcap) g0 g1 g2 wk P ((P : Int) + (W.length : Int))) (hI : Inited w5 w6 lg P W) (hpre : pre.length = P) (hS : S < b1) (hR : R < b1) (hb1 : b1 = w1.heap.size) :
    LF w1 w6 S R M P k lg lcap pre (initF (W.length / 2) W.toArray) (.slice none 0 0) g0 g1 g2 wk := by
  have hsz : (initF (W.length / 2) W.toArray).size = W.length := by rw [initF_size]; simp
  have hcap := lst_cap h.lst
  rcases hI with ⟨rfl, rfl⟩ | ⟨hne, hW⟩
  · refine ⟨h.kept, by rw [hsz]; exact h.sat, by rw [hsz]; exact h.run, h.oth, ?_, fun i hi => by rw [hsz] at hi; simp at hi, by rw [hsz]; exact hcap⟩
    intro i hi c hc
    rcases h.lst with ⟨_, e, hl, hcell⟩ | ⟨hm, _⟩
    · injection e with e1 _ _
      injection e1 with e1
      injection e1 with e1
      subst e1
      have hx : ∃ v, (encQ (pre.getD i default))[c]? = some v := ⟨_, List.getElem?_eq_getElem (by exact hc)⟩
      obtain ⟨v, hv⟩ := hx
      rw [hv]
      refine hcell _ v ?_
      rw [List.append_nil, flat_get _ _ _ hc (by omega)]
      exact hv
    · simp at hm
  · have hpos : 0 < W.length := List.length_pos_iff.2 hne
    rcases h.lst with ⟨h0, _⟩ | ⟨_, ho⟩
    · omega
    obtain ⟨hbg, hlt⟩ := ho.lt lg rfl
    have hH := holds_of_own ho hpre
    have hg := swk_grown hW
    have hH6 : HoldsK encQ 13 w6 lg (P * 13) (initF (W.length / 2) W.toArray) := hW.holds hlt hH (by rw [hsz]; simp)
    refine ⟨h.kept.grown hg (fun q hq => Or.inr (by injection hq with hq; omega)), ?_, ?_, ?_, ?_, ?_, by rw [hsz]; exact hcap⟩
    · rw [hsz]; exact h.sat.of_block (swk_block hW h.sat.lt (by omega))
    · rw [hsz]; exact h.run.of_block (swk_block hW h.run.lt (by omega))
    · intro x v hx hv
      exact (World.cell?_of_block (a := ⟨R, x, none⟩) (swk_block hW h.run.lt (show R ≠ lg by omega))).trans (h.oth x v hx hv)
    · intro i hi c hc
      rw [swk_ahead hW hlt (by omega)]
      have := qat_own (L := pre ++ W) ho (by simp [hpre]) (i := i) (by omega) c hc
      rw [this]
      congr 2
      rw [List.getD_eq_getElem?_getD, List.getD_eq_getElem?_getD, List.getElem?_append_left (by omega)]
    · intro i hi
      have := qat_holds hH6 hi
      rw [Nat.add_mul]
      exact this

theorem init_list {b1 : Nat} {w1 w5 : World} {S R M Lb P k lg lcap : Nat} {pre W : List Q} {g0 g1 g2 wk : Int} (h : LI b1 w1 w5 S R M Lb P k pre W (.slice (some ⟨lg, 0, none⟩) (P + W.length) lcap) g0 g1 g2 wk P ((P : Int) + (W.length : Int))) (hpre : pre.length = P) (hl : W.length ≤ 1024) :
    Calls Yba.prog 27 #[.slice (if lcap = P then some ⟨lg, 0, none⟩ else some ⟨lg, P * 13, none⟩) W.length (lcap - P)] w5 fun r w' => r = .returned (.tuple #[]) ∧ Inited w5 w' lg P W := by
  have hcap := lst_cap h.lst
  cases W with
  | nil => exact (init_none _ _ _).mono fun r w' ⟨h1, h2⟩ => ⟨h1, Or.inl ⟨rfl, h2⟩⟩
  | cons x W =>
    rcases h.lst with ⟨h0, _⟩ | ⟨_, ho⟩
    · simp at h0
    obtain ⟨hbg, hlt⟩ := ho.lt lg rfl
    rw [if_neg (by simp at hcap; omega)]
    exact (init_any lg (P * 13) (lcap - P) (x :: W).toArray w5 (holds_of_own ho hpre) hlt (by simp at hl ⊢; omega)).mono fun r w' ⟨h1, h2⟩ => ⟨h1, Or.inr ⟨by simp, h2⟩⟩

/-- The queue behind 'list'. -/
def QueueAt (w : World) (qv : Value) (D : Array Q) : Prop := (D.size = 0 ∧ qv = .slice none 0 0) ∨ (0 < D.size ∧ ∃ qg qcap, qv = .slice (some ⟨qg, 0, none⟩) 1 qcap ∧ QAt w qg 0 D[0]!)
/-- What 'list' leaves. -/
def Listed (w w' : World) (S R M P k : Nat) (pre : List Q) (D : Array Q) (g0 g1 g2 : Int) : Prop := ∃ lg lcap qv, LF w w' S R M P k lg lcap pre D qv g0 g1 g2 (3 + (D.size : Int)) ∧ QueueAt w' qv D

theorem LF.base {w w1 w' : World} {S R M P k lg lcap : Nat} {pre : List Q} {D : Array Q} {qv : Value} {g0 g1 g2 wk : Int} (h : LF w1 w' S R M P k lg lcap pre D qv g0 g1 g2 wk) (hb : Below w.heap.size w w1) : LF w w' S R M P k lg lcap pre D qv g0 g1 g2 wk :=
  ⟨(Kept.of_below hb).trans h.kept, h.sat, h.run, fun x v hx hv => h.oth x v hx (cell_keeps hb hv), h.ahead, h.ents, h.cap⟩

theorem lst_off {b1 : Nat} {wr : World} {Lb P m g cap S : Nat} {xs : List Value} (h : Lst b1 wr Lb P m (.slice (some ⟨g, 0, none⟩) (P + m) cap) xs) (hS : S < b1) (hL : Lb ≠ S) : g ≠ S := by
  rcases h with ⟨rfl, e, _⟩ | ⟨hm, ho⟩
  · injection e with e1 _ _
    injection e1 with e1
    injection e1 with e1
    rw [e1]; exact hL
  · have := (ho.lt g rfl).1
    omega
theorem pushed_kept {w w' : World} {S : Nat} {e : Q} {bs : List Nat} (h : Pushed w w' S e) (hS : S ∈ bs) : Kept w w' bs :=
  ⟨(h.below 0 (Nat.zero_le _)).os, (h.below 0 (Nat.zero_le _)).tape, (h.below 0 (Nat.zero_le _)).output, (h.below 0 (Nat.zero_le _)).size, fun k hk hn => h.blk k hk (fun e => hn (by rw [e]; exact hS))⟩
theorem LF.pushed {w w' w'' : World} {S R M P k lg lcap : Nat} {pre : List Q} {D : Array Q} {qv : Value} {g0 g1 g2 wk : Int} (h : LF w w' S R M P k lg lcap pre D qv g0 g1 g2 wk) {e : Q} (hp : Pushed w' w'' S e) (hSR : S ≠ R) (hLS : lg ≠ S) (hfr : ∀ x, w''.frozen? ⟨S, x, none⟩ = false) (hk : Kept w' w'' [S, R]) : ∃ qv', LF w w'' S R M P k lg lcap pre D qv' g0 g1 g2 wk ∧ ∃ qg qcap, qv' = .slice (some ⟨qg, 0, none⟩) 1 qcap ∧ QAt w'' qg 0 e := by
  obtain ⟨qg, qcap, h1, h2⟩ := hp.q
  have o : ∀ B x v, (B ≠ S ∨ x ≠ 2) → w'.cell? ⟨B, x, none⟩ = some v → w''.cell? ⟨B, x, none⟩ = some v := fun B x v hx hv => hp.other _ v (fun e => by injection e with e1 e2; rcases hx with h | h; exact h e1; exact h e2) hv
  have oq : ∀ i e', QAt w' lg i e' → QAt w'' lg i e' := fun i e' hq c hc => by
    have hx : ∃ v, (encQ e')[c]? = some v := ⟨_, List.getElem?_eq_getElem (by exact hc)⟩
    obtain ⟨v, hv⟩ := hx
    rw [hv]
    exact o _ _ _ (Or.inl hLS) ((hq c hc).trans hv)
  refine ⟨.slice (some ⟨qg, 0, none⟩) 1 qcap, ⟨h.kept.trans hk, ⟨h1, o _ _ _ (Or.inr (by omega)) h.sat.s3, o _ _ _ (Or.inr (by omega)) h.sat.s4, o _ _ _ (Or.inr (by omega)) h.sat.s6, o _ _ _ (Or.inr (by omega)) h.sat.s7, o _ _ _ (Or.inr (by omega)) h.sat.s8, o _ _ _ (Or.inr (by omega)) h.sat.s9, o _ _ _ (Or.inr (by omega)) h.sat.s10, o _ _ _ (Or.inr (by omega)) h.sat.s15, hfr⟩, ⟨o _ _ _ (Or.inl (Ne.symm hSR)) h.run.c0, o _ _ _ (Or.inl (Ne.symm hSR)) h.run.c1, o _ _ _ (Or.inl (Ne.symm hSR)) h.run.c2, o _ _ _ (Or.inl (Ne.symm hSR)) h.run.c3, o _ _ _ (Or.inl (Ne.symm hSR)) h.run.c4, o _ _ _ (Or.inl (Ne.symm hSR)) h.run.c5⟩, fun x v hx hv => o _ _ _ (Or.inl (Ne.symm hSR)) (h.oth x v hx hv), fun i hi => oq _ _ (h.ahead i hi), fun i hi => oq _ _ (h.ents i hi), h.cap⟩, qg, qcap, rfl, h2⟩

set_option maxHeartbeats 8000000 in
set_option maxRecDepth 100000 in
theorem list_any (S R N M Pt Tb Bk mb nB Lb P k tcap : Nat) (tp : Option Addr) (ths : List Th) (topic pin a0 a1 a2 g0 g1 g2 : Int) (ao co : Option Addr) (oc cc : Nat) (orig cur : List Int) (np : Nat → Nat) (it : Q) (pre : List Q) (w : World)
    (hk : k < 2) (hP : P ≤ 3) (hpre : pre.length = P) (hL : LPre w [S, R] N M Pt Tb Bk mb nB tp tcap ths topic pin a0 a1 a2 ao co oc cc orig cur np) (hS : SAt w S R M (.slice (some ⟨Lb, 0, none⟩) P P) (.slice none 0 0) g0 g1 g2 3)
    (hR : RunAt w R (k * 6) 2 7 0 0 0 0) (hRf : ∀ x, w.frozen? ⟨R, x, none⟩ = false) (hSR : S ≠ R) (hLS : Lb ≠ S) (hLR : Lb ≠ R) (hLc : ∀ j u, (pre.flatMap encQ)[j]? = some u → w.cell? ⟨Lb, j, none⟩ = some u) :
    Calls Yba.prog 9 #[.pointer (some ⟨S, 0, none⟩), .pointer (some ⟨N, 0, none⟩), .int .i32 k, .agg (encQ it).toArray] w fun r w' => r = .returned (.tuple #[]) ∧ Listed w w' S R M P k pre (initF ((wantL topic pin a0 a1 a2 g0 g1 g2 it.run it.depth np orig cur ths).length / 2) (wantL topic pin a0 a1 a2 g0 g1 g2 it.run it.depth np orig cur ths).toArray) g0 g1 g2 := by
  have key : ∀ w1, w1 = w.alloc (.cells (encQ it).toArray 77) → Below w.heap.size w w1 ∧ w1.heap[w.heap.size]? = some (.cells (encQ it).toArray 77 (0, 0)) ∧ w1.heap.size = w.heap.size + 1 := by
    rintro w1 rfl
    exact ⟨(Below.refl _ _).alloc (Nat.le_refl _) _, heap_alloc_new _ _, by simp⟩
  have HL : Hid _ := hL
  have HS : Hid (SAt w S R M (.slice (some ⟨Lb, 0, none⟩) P P) (.slice none 0 0) g0 g1 g2 3) := hS
  have HR : Hid (RunAt w R (k * 6) 2 7 0 0 0 0) := hR
  have HRf : Hid (∀ x, w.frozen? ⟨R, x, none⟩ = false) := hRf
  have HLc : Hid (∀ j u, (pre.flatMap encQ)[j]? = some u → w.cell? ⟨Lb, j, none⟩ = some u) := hLc
  clear hL hS hR hRf hLc
  have k0' : (0 : Int) ≤ (k : Int) := by omega
  have k1' : (k : Int) < 2 := by omega
  have hl8 : ths.length ≤ 1024 := HL.out.hlen
  have w32 : IntKind.i32.wrap (P : Int) = P := by rw [IntKind.wrap_i32]; omega
  obtain ⟨i0, ia, ib, ilb, id0, id1, id2, irn, idp, if0, if1, ing, imd⟩ := it
  simp only
  simp only [encQ] at key ⊢
  go_enter Yba.func9, Yba.ntmps9
  go_upto_region 1 with (fail)
  obtain ⟨hb1, hq1, hz1⟩ := key _ rfl
  generalize w.alloc (.cells #[.int .u8 i0, .int .i32 ia, .int .i32 ib, .int .i32 ilb, .int .i64 id0, .int .i64 id1, .int .i64 id2, .int .i32 irn, .int .i32 idp, .int .i32 if0, .int .i32 if1, .bool ing, .int .i8 imd] 77) = w1 at hb1 hq1 hz1 ⊢
  have HB1 : Hid _ := hb1
  have HQ1 : Hid _ := hq1
  have HZ1 : Hid _ := hz1
  have L1 := HL.out.keep (Kept.of_below hb1)
  have S1 := HS.out.keep hb1
  have R1 := HR.out.keep hb1
  have s3 := S1.s3
  have s4 := S1.s4
  have s6 := S1.s6
  have n0 := L1.n0
  have m0 := L1.m0
  have r0 := R1.c0
  have r3 := R1.c3
  have r4 := R1.c4
  have f0 : w1.frozen? ⟨R, k * 6, none⟩ = false := frozen_keep hb1 HR.out.c0 (HRf.out _)
  have f4 : w1.frozen? ⟨R, k * 6 + 4, none⟩ = false := frozen_keep hb1 HR.out.c4 (HRf.out _)
  have HL1 : Hid _ := L1
  have HS1 : Hid (SAt w1 S R M (.slice (some ⟨Lb, 0, none⟩) P P) (.slice none 0 0) g0 g1 g2 3) := S1
  have HR1 : Hid (RunAt w1 R (k * 6) 2 7 0 0 0 0) := R1
  clear key hb1 hq1 hz1 L1 S1 R1
  go_upto_region 2 with (fail)
  go_region_held3 (fun w' => w'.cell? ⟨S, 6, none⟩ = some (.slice (some ⟨M, 0, none⟩) 1 1) ∧ w'.cell? ⟨R, k * 6 + 3, none⟩ = some (.int .i32 0)) (exact ⟨s6, r3⟩) (fail)
  go_upto_region 3 with (fail)
  go_region_held3 (fun w' => w'.cell? ⟨N, 0, none⟩ = some (.slice (some ⟨Pt, 0, none⟩) 1 1) ∧ w'.cell? ⟨M, 0, none⟩ = some (.int .i32 0)) (exact ⟨n0, m0⟩) (fail)
  go_upto_region 5 with (fail)
  have I0 := li_start (pre := pre) HS1.out HR1.out (fun x => frozen_of HB1.out HR.out.lt (HRf.out x)) hSR hLR hpre (fun j u hj => cell_keeps HB1.out (HLc.out j u hj))
  have HI0 : Hid (LI w1.heap.size w1 ((w1.setCell ⟨R, k * 6, none⟩ (.int .u8 3)).setCell ⟨R, k * 6 + 4, none⟩ (.int .i32 P)).drew.drew S R M Lb P k pre [] (.slice (some ⟨Lb, 0, none⟩) P P) g0 g1 g2 3 P 0) := I0
  clear I0 s3 s4 s6 n0 m0 r0 r3 r4 f0 f4
  generalize ((w1.setCell ⟨R, k * 6, none⟩ (.int .u8 3)).setCell ⟨R, k * 6 + 4, none⟩ (.int .i32 P)).drew.drew = w2 at HI0 ⊢
  have L2 := HL1.out.keep HI0.out.kept
  have h5 : w2.cell? ⟨Pt, 0, none⟩ = some (.int .i32 topic) ∧ w2.cell? ⟨M, 1, none⟩ = some (.int .i32 0) ∧ w2.cell? ⟨Tb, 0, none⟩ = some (.slice tp ths.length tcap) := ⟨L2.p0, L2.m1, L2.tb⟩
  have H5 : Hid (w2.cell? ⟨Pt, 0, none⟩ = some (.int .i32 topic) ∧ w2.cell? ⟨M, 1, none⟩ = some (.int .i32 0) ∧ w2.cell? ⟨Tb, 0, none⟩ = some (.slice tp ths.length tcap)) := h5
  have HT : Hid (Calls Yba.prog 23 #[.pointer (some ⟨N, 0, none⟩), .int .i32 topic, .int .i32 0] w2.drew fun e w' => e = .returned (.pointer (some ⟨Tb, 0, none⟩)) ∧ Laid w2.drew w') := trackedIn_any N Tb topic w2.drew L2.n5 L2.n2
  clear L2 h5
  go_region_held3 (fun w' => w'.cell? ⟨Pt, 0, none⟩ = some (.int .i32 topic) ∧ w'.cell? ⟨M, 1, none⟩ = some (.int .i32 0) ∧ w'.cell? ⟨Tb, 0, none⟩ = some (.slice tp ths.length tcap))
    (first | with_reducible exact keep3c H5.out ((Below.refl _ _).drew) | with_reducible exact keep3c H5.out hb3)
    (first | (go_at_call 23; refine HT.out.mono ?_; rintro e w3 ⟨rfl, hl3⟩; have hb3 : Below w2.heap.size w2 w3 := (Below.refl _ _).drew.trans hl3.below))
  have HI3 : Hid (LI w1.heap.size w1 w3 S R M Lb P k pre [] (.slice (some ⟨Lb, 0, none⟩) P P) g0 g1 g2 3 P 0) := HI0.out.keep hb3
  clear hb3 hl3
  go_wp2_with fail
  go_loopw [66] (fun i wr => ∃ (j : Nat) (lv : Value), j ≤ ths.length ∧ i = .int .i64 j ∧ Hid (LI w1.heap.size w1 wr S R M Lb P k pre (wantL topic pin a0 a1 a2 g0 g1 g2 irn idp np orig cur (ths.take j)) lv g0 g1 g2 3 P 0)) (fun i _ => ths.length - (intOf i).toNat)
  case atStart => exact ⟨0, _, Nat.zero_le _, rfl, HI3⟩
  case round =>
    obtain ⟨j, lv, hj, rfl, HI⟩ := hrel
    clear HI3 HI0 H5 HT
    by_cases hlt : j < ths.length
    · have L := HL1.out.keep HI.out.kept
      obtain ⟨T, rfl, hT, hc⟩ := L.row (by omega)
      have c1 := (hc j hlt).1
      have c2 := (hc j hlt).2
      have j0 : (0 : Int) ≤ (j : Int) := by omega
      have j1 : (j : Int) < (ths.length : Int) := by omega
      have hmem := getD_mem hlt
      have HW : Hid _ := hmem
      have HJ : Hid (j + 1 ≤ ths.length) := hlt
      have HLr : Hid _ := L
      cases hnm : namedB pin (ths.getD j default).b orig cur with
      | true =>
        have HN : Hid _ := want_named (topic := topic) (a0 := a0) (a1 := a1) (a2 := a2) (g0 := g0) (g1 := g1) (g2 := g2) (rn := irn) (dp := idp) (np := np) hlt hnm
        have hcall : ∀ w', Below wr.heap.size wr w' → Calls Yba.prog 24 #[.pointer (some ⟨Pt, 0, none⟩), .int .i32 (ths.getD j default).b] w' fun e w'' => e = .returned (.bool true) ∧ w'' = w' := fun w' hb => by
          have L' := L.keep (Kept.of_below hb)
          rw [← hnm]
          exact named_any Pt 0 ao co oc cc pin _ orig cur w' (by have := L.hol; omega) (by have := L.hcl; omega) L'.p2 L'.p3 L'.p7 L'.ro L'.rc
        have HCL : Hid _ := hcall
        clear hcall L hc hmem hnm
        generalize ths.getD j default = t at c1 c2 HW HCL HN
        go_wp2_with (go_at_call 24; refine (HCL.out _ ((Below.refl _ _).alloc (Nat.le_refl _) _)).mono ?_; rintro e w' ⟨rfl, rfl⟩)
        go_roundw
        case rel => exact ⟨j + 1, lv, HJ.out, by go_num, by rw [HN.out]; exact HI.out.keep ((Below.refl _ _).alloc (Nat.le_refl _) _)⟩
        case measure => have := HJ.out; simp [intOf]; omega
      | false =>
        have HN : Hid _ := want_new (topic := topic) (a0 := a0) (a1 := a1) (a2 := a2) (g0 := g0) (g1 := g1) (g2 := g2) (rn := irn) (dp := idp) (np := np) hlt hnm
        have hcall : ∀ w', Below wr.heap.size wr w' → Calls Yba.prog 24 #[.pointer (some ⟨Pt, 0, none⟩), .int .i32 (ths.getD j default).b] w' fun e w'' => e = .returned (.bool false) ∧ w'' = w' := fun w' hb => by
          have L' := L.keep (Kept.of_below hb)
          rw [← hnm]
          exact named_any Pt 0 ao co oc cc pin _ orig cur w' (by have := L.hol; omega) (by have := L.hcl; omega) L'.p2 L'.p3 L'.p7 L'.ro L'.rc
        have HCL : Hid _ := hcall
        clear hcall L hc hmem hnm
        generalize ths.getD j default = t at c1 c2 HW HCL HN
        go_upto_region 9 with (go_at_call 24; refine (HCL.out _ ((Below.refl _ _).alloc (Nat.le_refl _) _)).mono ?_; rintro e w' ⟨rfl, rfl⟩)
        have hbA : Below wr.heap.size wr (wr.alloc (.cells #[.int .i32 t.b, .pointer (some ⟨t.H, 0, none⟩)] 44)) := (Below.refl _ _).alloc (Nat.le_refl _) _
        have hqA : (wr.alloc (.cells #[.int .i32 t.b, .pointer (some ⟨t.H, 0, none⟩)] 44)).heap[wr.heap.size]? = some (.cells #[.int .i32 t.b, .pointer (some ⟨t.H, 0, none⟩)] 44 (0, 0)) := heap_alloc_new _ _
        generalize wr.alloc (.cells #[.int .i32 t.b, .pointer (some ⟨t.H, 0, none⟩)] 44) = wA at hbA hqA ⊢
        have tb0 : wA.cell? ⟨wr.heap.size, 0, none⟩ = some (.int .i32 t.b) := cellAt hqA rfl
        have tb1 : wA.cell? ⟨wr.heap.size, 1, none⟩ = some (.pointer (some ⟨t.H, 0, none⟩)) := cellAt hqA rfl
        have HA9 : Hid (wA.cell? ⟨Pt, 0, none⟩ = some (.int .i32 topic) ∧ wA.cell? ⟨wr.heap.size, 0, none⟩ = some (.int .i32 t.b)) := ⟨cell_keeps hbA HLr.out.p0, tb0⟩
        have HTB1 : Hid _ := tb1
        have HBA : Hid (Below wr.heap.size wr wA) := hbA
        clear hbA hqA tb0 tb1 c1 c2
        go_region_held3 (fun w' => w'.cell? ⟨Pt, 0, none⟩ = some (.int .i32 topic) ∧ w'.cell? ⟨wr.heap.size, 0, none⟩ = some (.int .i32 t.b) ∧ Below wA.heap.size wA w')
          (first | with_reducible exact k2 HA9.out ((Below.refl _ _).drew) | with_reducible exact k2 HA9.out (bl_alloc (l2 (by assumption))) | with_reducible exact k2 HA9.out (((Below.refl _ _).alloc (Nat.le_refl _) _).drew))
          (fail)
        have hbB : Below wA.heap.size wA (wA.alloc (.cells #[.int .u8 3, .int .i32 topic, .int .i32 t.b] 66)).drew := ((Below.refl _ _).alloc (Nat.le_refl _) _).drew
        have hqB : (wA.alloc (.cells #[.int .u8 3, .int .i32 topic, .int .i32 t.b] 66)).drew.heap[wA.heap.size]? = some (.cells #[.int .u8 3, .int .i32 topic, .int .i32 t.b] 66 (0, 0)) := heap_alloc_new _ _
        generalize (wA.alloc (.cells #[.int .u8 3, .int .i32 topic, .int .i32 t.b] 66)).drew = wB at hbB hqB ⊢
        have HBB : Hid (Below wr.heap.size wr wB) := HBA.out.trans (hbB.mono HBA.out.size)
        have HAB : Hid (wA.heap.size ≤ wB.heap.size) := hbB.size
        have HIB : Hid _ := HI.out.keep HBB.out
        have HLB : Hid _ := HLr.out.keep (Kept.of_below HBB.out)
        have HH := (HLB.out.hold t HW.out).1
        have hnI : w.heap.size ∉ [S, R] := by
          have h1 := HS.out.lt
          have h2 := HR.out.lt
          simp only [List.mem_cons, List.not_mem_nil, or_false, not_or]
          omega
        have q7 : w1.cell? ⟨w.heap.size, 7, none⟩ = some (.int .i32 irn) := cellAt HQ1.out rfl
        have q8 : w1.cell? ⟨w.heap.size, 8, none⟩ = some (.int .i32 idp) := cellAt HQ1.out rfl
        have H12 : Hid (wB.cell? ⟨wA.heap.size, 0, none⟩ = some (.int .u8 3) ∧ wB.cell? ⟨wA.heap.size, 1, none⟩ = some (.int .i32 topic) ∧ wB.cell? ⟨wA.heap.size, 2, none⟩ = some (.int .i32 t.b) ∧ wB.cell? ⟨M, 2, none⟩ = some (.int .i64 a0) ∧ wB.cell? ⟨M, 3, none⟩ = some (.int .i64 a1) ∧ wB.cell? ⟨M, 4, none⟩ = some (.int .i64 a2) ∧ wB.cell? ⟨wr.heap.size, 1, none⟩ = some (.pointer (some ⟨t.H, 0, none⟩)) ∧ wB.cell? ⟨t.H, 3, none⟩ = some (.int .i64 t.o) ∧ wB.cell? ⟨t.H, 4, none⟩ = some (.int .i64 t.a) ∧ wB.cell? ⟨t.H, 5, none⟩ = some (.int .i64 t.l) ∧ wB.cell? ⟨w.heap.size, 7, none⟩ = some (.int .i32 irn) ∧ wB.cell? ⟨w.heap.size, 8, none⟩ = some (.int .i32 idp)) :=
          ⟨cellAt hqB rfl, cellAt hqB rfl, cellAt hqB rfl, HLB.out.m2, HLB.out.m3, HLB.out.m4, cell_keeps hbB HTB1.out, HH.c3, HH.c4, HH.c5, HIB.out.kept.cell q7 hnI, HIB.out.kept.cell q8 hnI⟩
        clear hbB hqB HH q7 q8 hnI
        go_upto_region 10 with (fail)
        go_cut [14] (fun v wq => ∃ A : Nat, v = .pointer (some ⟨A, 0, none⟩) ∧ QAt wq A 0 ⟨3, topic, t.b, 0, wrap64 (a0 - t.o), wrap64 (a1 - t.a), wrap64 (a2 - t.l), irn, idp, 0, 0, false, 0⟩ ∧ Below wB.heap.size wB wq)
        case first =>
          have HZ0 : Hid ((wB.alloc (.cells #[.int .u8 0, .int .i32 0, .int .i32 0, .int .i32 0, .int .i64 0, .int .i64 0, .int .i64 0, .int .i32 0, .int .i32 0, .int .i32 0, .int .i32 0, .bool false, .int .i8 0] 77)).drew.heap[wB.heap.size]? = some (.cells #[.int .u8 0, .int .i32 0, .int .i32 0, .int .i32 0, .int .i64 0, .int .i64 0, .int .i64 0, .int .i32 0, .int .i32 0, .int .i32 0, .int .i32 0, .bool false, .int .i8 0] 77 (0, 0))) := heap_alloc_new _ _
          have HZ1 : Hid (Below wB.heap.size wB (wB.alloc (.cells #[.int .u8 0, .int .i32 0, .int .i32 0, .int .i32 0, .int .i64 0, .int .i64 0, .int .i64 0, .int .i32 0, .int .i32 0, .int .i32 0, .int .i32 0, .bool false, .int .i8 0] 77)).drew) := ((Below.refl _ _).alloc (Nat.le_refl _) _).drew
          go_region_held3 (fun w' => w'.cell? ⟨wA.heap.size, 0, none⟩ = some (.int .u8 3) ∧ w'.cell? ⟨wA.heap.size, 1, none⟩ = some (.int .i32 topic) ∧ w'.cell? ⟨wA.heap.size, 2, none⟩ = some (.int .i32 t.b) ∧ w'.cell? ⟨M, 2, none⟩ = some (.int .i64 a0) ∧ w'.cell? ⟨M, 3, none⟩ = some (.int .i64 a1) ∧ w'.cell? ⟨M, 4, none⟩ = some (.int .i64 a2) ∧ w'.cell? ⟨wr.heap.size, 1, none⟩ = some (.pointer (some ⟨t.H, 0, none⟩)) ∧ w'.cell? ⟨t.H, 3, none⟩ = some (.int .i64 t.o) ∧ w'.cell? ⟨t.H, 4, none⟩ = some (.int .i64 t.a) ∧ w'.cell? ⟨t.H, 5, none⟩ = some (.int .i64 t.l) ∧ w'.cell? ⟨w.heap.size, 7, none⟩ = some (.int .i32 irn) ∧ w'.cell? ⟨w.heap.size, 8, none⟩ = some (.int .i32 idp) ∧ Below wB.heap.size wB w')
            (first | with_reducible exact k12 H12.out (bl_set13 hbD (Nat.le_refl _)) | with_reducible exact k12 H12.out ((Below.refl _ _).drew) | with_reducible exact k12 H12.out hbD | with_reducible exact k12 H12.out (((Below.refl _ _).alloc (Nat.le_refl _) _).drew) | with_reducible exact k12 H12.out (bl_alloc hbD))
            (first
              | (go_at_call 25; refine (minus_any _ _ _ _ _ _ _).mono ?_; rintro e wD ⟨rfl, hbx⟩; with_reducible refine tailZ HZ1.out HZ0.out hbx (fun hbD HZ x0 x1 x2 x3 x4 x5 x6 x7 x8 x9 x10 x11 x12 y0 y1 y2 y3 y4 y5 y6 y7 y8 y9 y10 y11 y12 => ?_))
              | (go_at_call 25; refine (minus_any _ _ _ _ _ _ _).mono ?_; rintro e wD ⟨rfl, hbx⟩; with_reducible refine tailP hbx (fun hbD => ?_)))
          · go_wp2_with fail
            go_meet
            exact ⟨wD.heap.size, rfl, qat_block (e := ⟨3, topic, t.b, 0, wrap64 (a0 - t.o), wrap64 (a1 - t.a), wrap64 (a2 - t.l), irn, idp, 0, 0, false, 0⟩) (heap_alloc_new _ _), bl_alloc hbD⟩
          · go_wp2_with fail
            go_meet
            exact ⟨wB.heap.size, rfl, qat_block (e := ⟨3, topic, t.b, 0, wrap64 (a0 - t.o), wrap64 (a1 - t.a), wrap64 (a2 - t.l), irn, idp, 0, 0, false, 0⟩) (set13 HZ.out _ _ _ _ _ _ _ _ _ _ _ _ _), bl_set13 hbD (Nat.le_refl _)⟩
        case rest =>
          obtain ⟨A, rfl, hqC, hbC⟩ := hcut
          obtain ⟨wC, rfl⟩ : ∃ wC, wC = wc := ⟨_, rfl⟩
          have HIC : Hid _ := HIB.out.keep hbC
          have HLC : Hid _ := HLB.out.keep (Kept.of_below hbC)
          obtain ⟨po, c2, KP⟩ := HLC.out.keyPre HIC.out.sat HW.out
          have hkey : ∀ w', Below wC.heap.size wC w' → Calls Yba.prog 26 #[.pointer (some ⟨S, 0, none⟩), .pointer (some ⟨N, 0, none⟩), .agg (encQ ⟨3, topic, t.b, 0, wrap64 (a0 - t.o), wrap64 (a1 - t.a), wrap64 (a2 - t.l), irn, idp, 0, 0, false, 0⟩).toArray] w' fun r w'' => r = .returned (.agg (encQ (entQ topic a0 a1 a2 g0 g1 g2 irn idp np t)).toArray) ∧ Below w'.heap.size w' w'' := fun w' hb =>
            keyed_any S N mb t.H Bk nB t.b (np t.b) c2 po topic t.held t.o t.a t.l g0 g1 g2 _ w' rfl rfl rfl (KP.keep hb)
          clear KP
          obtain ⟨lg, lcap, hlv⟩ := HIC.out.lst.shape
          have HN1 : Hid (P + (wantL topic pin a0 a1 a2 g0 g1 g2 irn idp np orig cur (ths.take j)).length ≤ 2000) := show _ ≤ _ by
            have h1 := want_len (topic := topic) (pin := pin) (a0 := a0) (a1 := a1) (a2 := a2) (g0 := g0) (g1 := g1) (g2 := g2) (rn := irn) (dp := idp) (np := np) (orig := orig) (cur := cur) (ths := ths.take j)
            have h2 : (ths.take j).length ≤ ths.length := by rw [List.length_take]; exact Nat.min_le_right _ _
            omega
          have hSb : S < w1.heap.size := Nat.lt_of_lt_of_le HS.out.lt HB1.out.size
          have hRb : R < w1.heap.size := Nat.lt_of_lt_of_le HR.out.lt HB1.out.size
          generalize wantL topic pin a0 a1 a2 g0 g1 g2 irn idp np orig cur (ths.take j) = W at hlv HN1 HN HI HIB HIC
          subst hlv
          generalize (⟨3, topic, t.b, 0, wrap64 (a0 - t.o), wrap64 (a1 - t.a), wrap64 (a2 - t.l), irn, idp, 0, 0, false, 0⟩ : Q) = E0 at hqC hkey
          generalize entQ topic a0 a1 a2 g0 g1 g2 irn idp np t = E1 at hkey HN
          obtain ⟨q0, q1, q2, q3, q4, q5, q6, q7, q8, q9, q10, q11, q12⟩ := E0
          obtain ⟨e0, e1, e2, e3, e4, e5, e6, e7, e8, e9, e10, e11, e12⟩ := E1
          have HNE : Hid (wantL topic pin a0 a1 a2 g0 g1 g2 irn idp np orig cur (ths.take (j + 1)) = W ++ [⟨e0, e1, e2, e3, e4, e5, e6, e7, e8, e9, e10, e11, e12⟩]) := HN
          clear HN
          have x0 : wC.cell? ⟨A, 0, none⟩ = some (.int .u8 q0) := by have := hqC 0 (by omega); rw [Nat.zero_add] at this; exact this
          have x1 : wC.cell? ⟨A, 1, none⟩ = some (.int .i32 q1) := by have := hqC 1 (by omega); rw [Nat.zero_add] at this; exact this
          have x2 : wC.cell? ⟨A, 2, none⟩ = some (.int .i32 q2) := by have := hqC 2 (by omega); rw [Nat.zero_add] at this; exact this
          have x3 : wC.cell? ⟨A, 3, none⟩ = some (.int .i32 q3) := by have := hqC 3 (by omega); rw [Nat.zero_add] at this; exact this
          have x4 : wC.cell? ⟨A, 4, none⟩ = some (.int .i64 q4) := by have := hqC 4 (by omega); rw [Nat.zero_add] at this; exact this
          have x5 : wC.cell? ⟨A, 5, none⟩ = some (.int .i64 q5) := by have := hqC 5 (by omega); rw [Nat.zero_add] at this; exact this
          have x6 : wC.cell? ⟨A, 6, none⟩ = some (.int .i64 q6) := by have := hqC 6 (by omega); rw [Nat.zero_add] at this; exact this
          have x7 : wC.cell? ⟨A, 7, none⟩ = some (.int .i32 q7) := by have := hqC 7 (by omega); rw [Nat.zero_add] at this; exact this
          have x8 : wC.cell? ⟨A, 8, none⟩ = some (.int .i32 q8) := by have := hqC 8 (by omega); rw [Nat.zero_add] at this; exact this
          have x9 : wC.cell? ⟨A, 9, none⟩ = some (.int .i32 q9) := by have := hqC 9 (by omega); rw [Nat.zero_add] at this; exact this
          have x10 : wC.cell? ⟨A, 10, none⟩ = some (.int .i32 q10) := by have := hqC 10 (by omega); rw [Nat.zero_add] at this; exact this
          have x11 : wC.cell? ⟨A, 11, none⟩ = some (.bool q11) := by have := hqC 11 (by omega); rw [Nat.zero_add] at this; exact this
          have x12 : wC.cell? ⟨A, 12, none⟩ = some (.int .i8 q12) := by have := hqC 12 (by omega); rw [Nat.zero_add] at this; exact this
          simp only [encQ] at hkey
          have HKP : Hid _ := hkey
          have s4 := HIC.out.sat.s4
          have f4 := HIC.out.sat.fr 4
          clear hqC hkey hbC H12 HIB HLB HBB HAB HBA HA9 HTB1 HLr HLC HCL HI
          go_upto_region 11 with (fail)
          go_region_law (first
            | (refine step_appendL rfl (.tmp 102) (.tmp 107) 59 Yba.underlying59 rfl w1.heap.size Lb P W.length _ ((pre ++ W).flatMap encQ) ⟨e0, e1, e2, e3, e4, e5, e6, e7, e8, e9, e10, e11, e12⟩ ⟨wK.heap.size, 0, none⟩ 1 rfl rfl (HIC.out.lst.keep (bl_alloc hbK)) (newsQ wK _) HN1.out (Nat.le_trans HIC.out.kept.size (bl_alloc hbK).size) ?_; intro g cap wa row ho hg hr; have s4a := hg.cell (cell_keeps (bl_alloc hbK) s4) (fun e => by have := hr S e.symm; omega); have f4a := grown_frozen hg (cell_keeps (bl_alloc hbK) s4) (fun e => by have := hr S e.symm; omega) (frozen_keep (bl_alloc hbK) s4 f4))
            | (refine step_callL rfl (HKP.out _ ((Below.refl _ _).drew)) (by go_simp) ?_; intro wK hbx; have hbK : Below wC.heap.size wC wK := (Below.refl _ _).drew.trans hbx; have s4K := cell_keeps hbK s4; have s4L : (wK.alloc (.cells #[.int .u8 e0, .int .i32 e1, .int .i32 e2, .int .i32 e3, .int .i64 e4, .int .i64 e5, .int .i64 e6, .int .i32 e7, .int .i32 e8, .int .i32 e9, .int .i32 e10, .bool e11, .int .i8 e12] 77)).cell? ⟨S, 4, none⟩ = some _ := cell_keeps (bl_alloc hbK) s4))
          all_goals
            have HI2 : Hid (LI w1.heap.size w1 (wa.setCell ⟨S, 4, none⟩ (.slice (some ⟨g, 0, none⟩) (P + W.length + 1) cap)) S R M Lb P k pre (W ++ [⟨e0, e1, e2, e3, e4, e5, e6, e7, e8, e9, e10, e11, e12⟩]) (.slice (some ⟨g, 0, none⟩) (P + W.length + 1) cap) g0 g1 g2 3 P 0) := HIC.out.push (bl_alloc hbK) ho hg hr hSb hRb hSR (Nat.le_refl _) (Nat.le_refl _) hLS
            clear x0 x1 x2 x3 x4 x5 x6 x7 x8 x9 x10 x11 x12 s4a f4a s4K s4L s4 f4 ho hg hr hbK hbx
            generalize wa.setCell ⟨S, 4, none⟩ (.slice (some ⟨g, 0, none⟩) (P + W.length + 1) cap) = w9 at HI2 ⊢
            go_wp2
            go_roundw
            case rel => exact ⟨j + 1, _, HJ.out, by go_num, by rw [HNE.out]; exact HI2⟩
            case measure => have := HJ.out; simp [intOf]; omega
    · have hje : j = ths.length := by omega
      subst hje
      rw [List.take_of_length_le (Nat.le_refl _)] at HI
      have hwl := want_len (topic := topic) (pin := pin) (a0 := a0) (a1 := a1) (a2 := a2) (g0 := g0) (g1 := g1) (g2 := g2) (rn := irn) (dp := idp) (np := np) (orig := orig) (cur := cur) (ths := ths)
      generalize hWe : wantL topic pin a0 a1 a2 g0 g1 g2 irn idp np orig cur ths = W at HI hwl
      have HWe : Hid (wantL topic pin a0 a1 a2 g0 g1 g2 irn idp np orig cur ths = W) := hWe
      clear hWe
      obtain ⟨lg, lcap, hlv⟩ := HI.out.lst.shape
      subst hlv
      have mixed : Yba.prog.follows .mixedOrders = true := by kernel_rfl
      have hSb : S < w1.heap.size := Nat.lt_of_lt_of_le HS.out.lt HB1.out.size
      have hRb : R < w1.heap.size := Nat.lt_of_lt_of_le HR.out.lt HB1.out.size
      have hLgS := lst_off HI.out.lst hSb hLS
      have s4 := HI.out.sat.s4
      have r5 := HI.out.run.c5
      have f5 := HI.out.rfr (k * 6 + 5)
      have e32 : wrap32 ((P : Int) + (W.length : Int)) = (P : Int) + (W.length : Int) := by unfold wrap32; omega
      have e33 : IntKind.i32.wrap ((P : Int) + (W.length : Int)) = (P : Int) + (W.length : Int) := by rw [IntKind.wrap_i32]; omega
      go_upto_region 14 with (fail)
      have HI4 : Hid _ := HI.out.setEnd hSR hLR hRb ((P : Int) + (W.length : Int))
      generalize wr.setCell ⟨R, k * 6 + 5, none⟩ (.int .i32 ((P : Int) + (W.length : Int))) = w4 at HI4 ⊢
      clear s4 r5 f5
      have s15 := HI4.out.sat.s15
      have f15 := HI4.out.sat.fr 15
      have r4 := HI4.out.run.c4
      have r5 := HI4.out.run.c5
      have e34 : IntKind.i32.wrap ((P : Int) + (W.length : Int) - (P : Int)) = (W.length : Int) := by rw [IntKind.wrap_i32]; omega
      have e35 : wrap32 ((P : Int) + (W.length : Int) - (P : Int)) = (W.length : Int) := by unfold wrap32; omega
      go_big_region_o
      have HI5 : Hid (LI w1.heap.size w1 (w4.setCell ⟨S, 15, none⟩ (.int .i64 (3 + (W.length : Int)))).drew S R M Lb P k pre W (.slice (some ⟨lg, 0, none⟩) (P + W.length) lcap) g0 g1 g2 (3 + (W.length : Int)) P ((P : Int) + (W.length : Int))) := (HI4.out.setWork hSR hLS hSb (3 + (W.length : Int))).keep ((Below.refl _ _).drew)
      generalize (w4.setCell ⟨S, 15, none⟩ (.int .i64 (3 + (W.length : Int)))).drew = w5 at HI5 ⊢
      clear s15 f15 r4 r5 HI4 HI
      have hcap := lst_cap HI5.out.lst
      have i0' : (0 : Int) ≤ (P : Int) := by omega
      have i1' : (P : Int) ≤ (P : Int) + (W.length : Int) := by omega
      have i2' : (P : Int) + (W.length : Int) ≤ (lcap : Int) := by omega
      have H15 : Hid (w5.cell? ⟨S, 4, none⟩ = some (.slice (some ⟨lg, 0, none⟩) (P + W.length) lcap) ∧ w5.cell? ⟨R, k * 6 + 4, none⟩ = some (.int .i32 P) ∧ w5.cell? ⟨R, k * 6 + 5, none⟩ = some (.int .i32 ((P : Int) + (W.length : Int)))) := ⟨HI5.out.sat.s4, HI5.out.run.c4, HI5.out.run.c5⟩
      have etn : ((P : Int) + (W.length : Int)).toNat = P + W.length := by omega
      have HI6 : Hid (LI w1.heap.size w1 w5.drew S R M Lb P k pre W (.slice (some ⟨lg, 0, none⟩) (P + W.length) lcap) g0 g1 g2 (3 + (W.length : Int)) P ((P : Int) + (W.length : Int))) := HI5.out.keep ((Below.refl _ _).drew)
      have HC15 : Hid (Calls Yba.prog 27 #[.slice (if lcap = P then some ⟨lg, 0, none⟩ else some ⟨lg, P * 13, none⟩) W.length (lcap - P)] w5.drew fun r w' => r = .returned (.tuple #[]) ∧ Inited w5.drew w' lg P W) := init_list HI6.out hpre (by omega)
      have HF0 : Hid (∀ w6, Inited w5.drew w6 lg P W → LF w1 w6 S R M P k lg lcap pre (initF (W.length / 2) W.toArray) (.slice none 0 0) g0 g1 g2 (3 + (W.length : Int))) := fun w6 hi => LF.of HI6.out hi hpre hSb hRb rfl
      have HDs : Hid ((initF (W.length / 2) W.toArray).size = W.length) := show _ = _ by rw [initF_size]; simp
      generalize hDe : initF (W.length / 2) W.toArray = D at HF0 HDs
      have HDe : Hid (initF (W.length / 2) W.toArray = D) := hDe
      clear hDe
      have HF : Hid (∀ w6, Inited w5.drew w6 lg P W → w6.cell? ⟨S, 4, none⟩ = some (.slice (some ⟨lg, 0, none⟩) (P + W.length) lcap) ∧ w6.cell? ⟨R, k * 6 + 4, none⟩ = some (.int .i32 P) ∧ w6.cell? ⟨R, k * 6 + 5, none⟩ = some (.int .i32 ((P : Int) + (W.length : Int)))) := fun w6 hi => by
        have h := HF0.out w6 hi
        have h4 := h.sat.s4
        have h5 := h.run.c5
        rw [HDs.out] at h4 h5
        exact ⟨h4, h.run.c4, h5⟩
      obtain ⟨pp, hpp⟩ : ∃ pp : Option Addr, (if lcap = P then some (⟨lg, 0, none⟩ : Addr) else some ⟨lg, P * 13, none⟩) = pp := ⟨_, rfl⟩
      rw [hpp] at HC15
      go_upto_region 15 with (fail)
      go_region_held3 (fun w' => w'.cell? ⟨S, 4, none⟩ = some (.slice (some ⟨lg, 0, none⟩) (P + W.length) lcap) ∧ w'.cell? ⟨R, k * 6 + 4, none⟩ = some (.int .i32 P) ∧ w'.cell? ⟨R, k * 6 + 5, none⟩ = some (.int .i32 ((P : Int) + (W.length : Int))))
        (first | with_reducible exact keep3c H15.out ((Below.refl _ _).drew) | with_reducible exact HF.out w6 hin)
        (first | (go_at_call 27; refine HC15.out.mono ?_; rintro e w6 ⟨rfl, hin⟩))
      have HF6 : Hid (LF w1 w6 S R M P k lg lcap pre D (.slice none 0 0) g0 g1 g2 (3 + (W.length : Int))) := HF0.out w6 hin
      have HnI : Hid (w.heap.size ∉ [S, R]) := show w.heap.size ∉ [S, R] by
        have h1 := HS.out.lt
        have h2 := HR.out.lt
        simp only [List.mem_cons, List.not_mem_nil, or_false, not_or]
        omega
      clear HI5 HI6 HC15 HF0 HF H15 hin hpp
      have u0 : w6.cell? ⟨w.heap.size, 0, none⟩ = some (.int .u8 i0) := HF6.out.kept.cell (cellAt (v := .int .u8 i0) HQ1.out rfl) HnI.out
      have u1 : w6.cell? ⟨w.heap.size, 1, none⟩ = some (.int .i32 ia) := HF6.out.kept.cell (cellAt (v := .int .i32 ia) HQ1.out rfl) HnI.out
      have u2 : w6.cell? ⟨w.heap.size, 2, none⟩ = some (.int .i32 ib) := HF6.out.kept.cell (cellAt (v := .int .i32 ib) HQ1.out rfl) HnI.out
      have u3 : w6.cell? ⟨w.heap.size, 3, none⟩ = some (.int .i32 ilb) := HF6.out.kept.cell (cellAt (v := .int .i32 ilb) HQ1.out rfl) HnI.out
      have u4 : w6.cell? ⟨w.heap.size, 4, none⟩ = some (.int .i64 id0) := HF6.out.kept.cell (cellAt (v := .int .i64 id0) HQ1.out rfl) HnI.out
      have u5 : w6.cell? ⟨w.heap.size, 5, none⟩ = some (.int .i64 id1) := HF6.out.kept.cell (cellAt (v := .int .i64 id1) HQ1.out rfl) HnI.out
      have u6 : w6.cell? ⟨w.heap.size, 6, none⟩ = some (.int .i64 id2) := HF6.out.kept.cell (cellAt (v := .int .i64 id2) HQ1.out rfl) HnI.out
      have u7 : w6.cell? ⟨w.heap.size, 7, none⟩ = some (.int .i32 irn) := HF6.out.kept.cell (cellAt (v := .int .i32 irn) HQ1.out rfl) HnI.out
      have u8 : w6.cell? ⟨w.heap.size, 8, none⟩ = some (.int .i32 idp) := HF6.out.kept.cell (cellAt (v := .int .i32 idp) HQ1.out rfl) HnI.out
      have u9 : w6.cell? ⟨w.heap.size, 9, none⟩ = some (.int .i32 if0) := HF6.out.kept.cell (cellAt (v := .int .i32 if0) HQ1.out rfl) HnI.out
      have u10 : w6.cell? ⟨w.heap.size, 10, none⟩ = some (.int .i32 if1) := HF6.out.kept.cell (cellAt (v := .int .i32 if1) HQ1.out rfl) HnI.out
      have u11 : w6.cell? ⟨w.heap.size, 11, none⟩ = some (.bool ing) := HF6.out.kept.cell (cellAt (v := .bool ing) HQ1.out rfl) HnI.out
      have u12 : w6.cell? ⟨w.heap.size, 12, none⟩ = some (.int .i8 imd) := HF6.out.kept.cell (cellAt (v := .int .i8 imd) HQ1.out rfl) HnI.out
      by_cases hD : W.length = 0
      · have HH : Hid (Calls Yba.prog 28 #[.pointer (some ⟨S, 0, none⟩), .pointer (some ⟨N, 0, none⟩), .int .i32 k, .agg (encQ ⟨i0, ia, ib, ilb, id0, id1, id2, irn, idp, if0, if1, ing, imd⟩).toArray] w6 fun r w' => r = .returned (.tuple #[.agg (encQ ⟨i0, ia, ib, ilb, id0, id1, id2, irn, idp, if0, if1, ing, imd⟩).toArray, .bool false]) ∧ Below w6.heap.size w6 w') := by
          have h5 := HF6.out.run.c5
          rw [HDs.out, hD] at h5
          exact head_none S N R k P ⟨i0, ia, ib, ilb, id0, id1, id2, irn, idp, if0, if1, ing, imd⟩ w6 hk HF6.out.sat.s3 HF6.out.run.c0 HF6.out.run.c4 (by simpa using h5)
        simp only [encQ] at HH
        go_wp2_with (go_at_call 28; refine HH.out.mono ?_; rintro e w7 ⟨rfl, hb7⟩)
        (try simp only [Exit.inBlock, Exit.then]); refine bodyPost_end (results_none rfl _ _ _) rfl ?_
        rw [HWe.out, HDe.out]
        refine ⟨rfl, lg, lcap, .slice none 0 0, ?_, Or.inl ⟨HDs.out.trans hD, rfl⟩⟩
        rw [HDs.out]
        exact (HF6.out.keep (bl_alloc hb7)).base HB1.out
      · have HH : Hid (Calls Yba.prog 28 #[.pointer (some ⟨S, 0, none⟩), .pointer (some ⟨N, 0, none⟩), .int .i32 k, .agg (encQ ⟨i0, ia, ib, ilb, id0, id1, id2, irn, idp, if0, if1, ing, imd⟩).toArray] w6 fun r w' => r = .returned (.tuple #[.agg (encQ D[0]!).toArray, .bool true]) ∧ Below w6.heap.size w6 w') := by
          have h5 := HF6.out.run.c5
          have h4 := HF6.out.sat.s4
          have hsz := HDs.out
          have hq := HF6.out.ents 0 (by omega)
          rw [Nat.add_zero] at hq
          exact head_some S N R lg k P (P + D.size) (P + D.size) lcap ⟨i0, ia, ib, ilb, id0, id1, id2, irn, idp, if0, if1, ing, imd⟩ D[0]! w6 hk HF6.out.sat.s3 HF6.out.run.c0 HF6.out.run.c4 (by rw [h5]; simp) h4 (by omega) (by omega) hq
        have HQ0 : Hid (∀ w7, QueueAt w7 (.slice none 0 0) #[] ∨ True) := fun _ => Or.inr trivial
        have HG : Hid (D[0]! = D[0]!) := show _ = _ from rfl
        generalize hE : D[0]! = E1 at HH
        have HE : Hid (D[0]! = E1) := hE
        clear hE HQ0 HG
        obtain ⟨e0, e1, e2, e3, e4, e5, e6, e7, e8, e9, e10, e11, e12⟩ := E1
        simp only [encQ] at HH
        go_upto_region 18 with (go_at_call 28; refine HH.out.mono ?_; rintro e w7 ⟨rfl, hb7⟩)
        have hb8 : Below w6.heap.size w6 (w7.alloc (.cells #[.int .u8 e0, .int .i32 e1, .int .i32 e2, .int .i32 e3, .int .i64 e4, .int .i64 e5, .int .i64 e6, .int .i32 e7, .int .i32 e8, .int .i32 e9, .int .i32 e10, .bool e11, .int .i8 e12] 77)) := bl_alloc hb7
        have hq8 : (w7.alloc (.cells #[.int .u8 e0, .int .i32 e1, .int .i32 e2, .int .i32 e3, .int .i64 e4, .int .i64 e5, .int .i64 e6, .int .i32 e7, .int .i32 e8, .int .i32 e9, .int .i32 e10, .bool e11, .int .i8 e12] 77)).heap[w7.heap.size]? = some (.cells #[.int .u8 e0, .int .i32 e1, .int .i32 e2, .int .i32 e3, .int .i64 e4, .int .i64 e5, .int .i64 e6, .int .i32 e7, .int .i32 e8, .int .i32 e9, .int .i32 e10, .bool e11, .int .i8 e12] 77 (0, 0)) := heap_alloc_new _ _
        generalize w7.alloc (.cells #[.int .u8 e0, .int .i32 e1, .int .i32 e2, .int .i32 e3, .int .i64 e4, .int .i64 e5, .int .i64 e6, .int .i32 e7, .int .i32 e8, .int .i32 e9, .int .i32 e10, .bool e11, .int .i8 e12] 77) = w8 at hb8 hq8 ⊢
        have x0 : w8.cell? ⟨w7.heap.size, 0, none⟩ = some (.int .u8 e0) := cellAt hq8 rfl
        have x1 : w8.cell? ⟨w7.heap.size, 1, none⟩ = some (.int .i32 e1) := cellAt hq8 rfl
        have x2 : w8.cell? ⟨w7.heap.size, 2, none⟩ = some (.int .i32 e2) := cellAt hq8 rfl
        have x3 : w8.cell? ⟨w7.heap.size, 3, none⟩ = some (.int .i32 e3) := cellAt hq8 rfl
        have x4 : w8.cell? ⟨w7.heap.size, 4, none⟩ = some (.int .i64 e4) := cellAt hq8 rfl
        have x5 : w8.cell? ⟨w7.heap.size, 5, none⟩ = some (.int .i64 e5) := cellAt hq8 rfl
        have x6 : w8.cell? ⟨w7.heap.size, 6, none⟩ = some (.int .i64 e6) := cellAt hq8 rfl
        have x7 : w8.cell? ⟨w7.heap.size, 7, none⟩ = some (.int .i32 e7) := cellAt hq8 rfl
        have x8 : w8.cell? ⟨w7.heap.size, 8, none⟩ = some (.int .i32 e8) := cellAt hq8 rfl
        have x9 : w8.cell? ⟨w7.heap.size, 9, none⟩ = some (.int .i32 e9) := cellAt hq8 rfl
        have x10 : w8.cell? ⟨w7.heap.size, 10, none⟩ = some (.int .i32 e10) := cellAt hq8 rfl
        have x11 : w8.cell? ⟨w7.heap.size, 11, none⟩ = some (.bool e11) := cellAt hq8 rfl
        have x12 : w8.cell? ⟨w7.heap.size, 12, none⟩ = some (.int .i8 e12) := cellAt hq8 rfl
        have HF8 : Hid (LF w1 w8 S R M P k lg lcap pre D (.slice none 0 0) g0 g1 g2 (3 + (W.length : Int))) := HF6.out.keep hb8
        have HP8 : Hid (Calls Yba.prog 29 #[.pointer (some ⟨S, 2, none⟩), .agg (encQ ⟨e0, e1, e2, e3, e4, e5, e6, e7, e8, e9, e10, e11, e12⟩).toArray] w8.drew fun r w' => r = .returned (.tuple #[]) ∧ Pushed w8.drew w' S ⟨e0, e1, e2, e3, e4, e5, e6, e7, e8, e9, e10, e11, e12⟩) := push_any S _ w8.drew HF8.out.sat.s2 (HF8.out.sat.fr 2)
        simp only [encQ] at HP8
        clear hb8 hq8 hb7 u0 u1 u2 u3 u4 u5 u6 u7 u8 u9 u10 u11 u12
        go_region_with (go_at_call 29; refine HP8.out.mono ?_; rintro e w9 ⟨rfl, hp9⟩)
        have hp := (HF8.out.keep ((Below.refl _ _).drew)).pushed hp9 hSR hLgS (fun x => hp9.fr x (HF8.out.sat.fr x)) (pushed_kept hp9 (by simp))
        have HPF : Hid _ := hp
        clear hp hp9
        go_wp2
        (try simp only [Exit.inBlock, Exit.then]); refine bodyPost_end (results_none rfl _ _ _) rfl ?_
        obtain ⟨qv', hF, qg, qcap, e1, hq⟩ := HPF.out
        rw [HWe.out, HDe.out]
        refine ⟨rfl, lg, lcap, qv', ?_, Or.inr ⟨by have := HDs.out; omega, qg, qcap, e1, by rw [HE.out]; exact hq⟩⟩
        rw [HDs.out]
        exact hF.base HB1.out
end Go.Proofs.Ybulkkru.cst

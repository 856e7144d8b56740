import Derived.Test.YbulkkruLPre
import Derived.Deep.RegionLawGrows
namespace Go.Proofs.Ybulkkru.cst
open Go.RowKit Go.Proofs Go.Proofs.Ybulkkru.net
set_option linter.unusedVariables false

/-- The row 'listed': as it came (full), or one that has grown since. -/
def Lst (b1 : Nat) (wr : World) (Lb P m : Nat) (lv : Value) (xs : List Value) : Prop :=
  (m = 0 ∧ lv = .slice (some ⟨Lb, 0, none⟩) P P ∧ xs.length = P * 13 ∧ ∀ j u, xs[j]? = some u → wr.cell? ⟨Lb, j, none⟩ = some u) ∨ (0 < m ∧ wr.ownsRow b1 77 13 lv (P + m) xs)

theorem Lst.shape {b1 : Nat} {wr : World} {Lb P m : Nat} {lv : Value} {xs : List Value} (h : Lst b1 wr Lb P m lv xs) : ∃ g cap, lv = .slice (some ⟨g, 0, none⟩) (P + m) cap := by
  rcases h with ⟨rfl, rfl, _⟩ | ⟨hm, ho⟩
  · exact ⟨Lb, P, rfl⟩
  · obtain ⟨g, cap, rfl, _⟩ := own_shape ho (by omega)
    exact ⟨g, cap, rfl⟩

theorem Lst.keep {b1 : Nat} {wr w' : World} {Lb P m : Nat} {lv : Value} {xs : List Value} (h : Lst b1 wr Lb P m lv xs) (hb : Below wr.heap.size wr w') : Lst b1 w' Lb P m lv xs := by
  rcases h with ⟨h1, h2, h3, h4⟩ | ⟨hm, ho⟩
  · exact Or.inl ⟨h1, h2, h3, fun j u hj => cell_keeps hb (h4 j u hj)⟩
  · refine Or.inr ⟨hm, ?_⟩
    obtain ⟨ha, h2 | ⟨g, cap, cur, e, h3, hg, h5⟩⟩ := ho
    · exact ⟨ha, Or.inl h2⟩
    · exact ⟨ha, Or.inr ⟨g, cap, cur, e, h3, (hb.block _ (lt_of_block hg)).trans hg, h5⟩⟩

theorem Lst.set {b1 : Nat} {wr : World} {Lb P m B i : Nat} {lv v : Value} {xs : List Value} (h : Lst b1 wr Lb P m lv xs) (hB : B < b1) (hL : Lb ≠ B) : Lst b1 (wr.setCell ⟨B, i, none⟩ v) Lb P m lv xs := by
  rcases h with ⟨h1, h2, h3, h4⟩ | ⟨hm, ho⟩
  · exact Or.inl ⟨h1, h2, h3, fun j u hj => by rw [World.cell?_setCell_other _ _ _ _ (fun e => hL (by injection e with e; exact e.symm))]; exact h4 j u hj⟩
  · refine Or.inr ⟨hm, ?_⟩
    obtain ⟨ha, h2 | ⟨g, cap, cur, e, h3, hg, h5⟩⟩ := ho
    · exact ⟨ha, Or.inl h2⟩
    · exact ⟨ha, Or.inr ⟨g, cap, cur, e, h3, by rw [setcell_other _ (by omega)]; exact hg, h5⟩⟩

set_option maxRecDepth 100000 in
/-- 'append(listed, entry)' as one step of a region. -/
theorem step_appendL {ops : Array Oper} {o : Oper} {a : Act} {w : World} {K : Act → World → Prop} {Q' : Exit → Act → World → Prop} {E : Prop} (hg : o.guard = none) (s x : Operand) (t : TypeId) (ht : Yba.prog.underlying t = some (.slice 77))
    (hop : o.op = Op.call { callee := Callee.builtin Builtin.append, args := #[s, x], argTypes := #[t, t] }) (b1 Lb P m : Nat) (lv : Value) (xs : List Value) (e : Q) (ad : Addr) (c : Nat) (hs : a.eval s = lv) (hx : a.eval x = .slice (some ad) 1 c)
    (hl : Lst b1 w Lb P m lv xs) (hc : ∀ j u, (encQ e)[j]? = some u → w.cell? (ad.add j) = some u) (hn : P + m ≤ 2000) (hbase : b1 ≤ w.heap.size)
    (hK : ∀ g cap w' row, w'.ownsRow b1 77 13 (.slice (some ⟨g, 0, none⟩) (P + m + 1) cap) (P + m + 1) (xs ++ encQ e) → w.grownBy w' row → (∀ k, row = some k → b1 ≤ k) → K (a.put o.dst (.slice (some ⟨g, 0, none⟩) (P + m + 1) cap)) w') :
    if Region.wanted o (yielded ops a.tmps) = true then Oper.wp Yba.prog o a w K Q' else E := by
  rcases hl with ⟨rfl, rfl, h3, h4⟩ | ⟨hm, ho⟩
  · obtain ⟨i, hi, hz, hsz, hbt⟩ := info_parts info77
    refine step_append_grows hg s x t hop 77 i _ 13 64 ht hi hz hsz hbt rfl (by omega) (some ⟨Lb, 0, none⟩) P P xs hs (fun h => by cases h) h3 (fun b hb j u hj => by injection hb with hb; subst hb; rw [WideShapes.add_plain, Nat.zero_add]; exact h4 j u hj) ad 1 c (encQ e) hx rfl hc (encQ_one e) (by omega) (by unfold maxLen; omega) (by omega) ?_
    intro v' w' h1 h2
    have h1' : w'.ownsRow b1 77 13 v' (P + 1) (xs ++ encQ e) := by
      obtain ⟨ha, h2 | ⟨g, cap, cur, e, h3, hg⟩⟩ := h1
      · exact ⟨ha, Or.inl h2⟩
      · exact ⟨ha, Or.inr ⟨g, cap, cur, e, by omega, hg⟩⟩
    obtain ⟨g, cap, rfl, hb, hlt⟩ := own_shape h1' (by omega)
    exact hK g cap w' none h1' h2 (fun k h => by cases h)
  · refine step_appendQ hg s x t ht hop b1 lv (P + m) xs e ad c hs hx ho hc (by omega) hbase ?_
    intro g cap w' h1 h2 h3 h4
    refine hK g cap w' _ h1 h2 (fun k hk => (ho.lt k hk).1)

structure LI (b1 : Nat) (w1 wr : World) (S R M Lb P k : Nat) (pre es : List Q) (lv : Value) (g0 g1 g2 wk pl en : Int) : Prop where
  kept : Kept w1 wr [S, R]
  sat : SAt wr S R M lv (.slice none 0 0) g0 g1 g2 wk
  run : RunAt wr R (k * 6) 3 7 0 0 pl en
  rfr : ∀ x, wr.frozen? ⟨R, x, none⟩ = false
  lst : Lst b1 wr Lb P es.length lv ((pre ++ es).flatMap encQ)
  oth : ∀ x v, (x < k * 6 ∨ k * 6 + 6 ≤ x) → w1.cell? ⟨R, x, none⟩ = some v → wr.cell? ⟨R, x, none⟩ = some v

theorem LI.keep {b1 : Nat} {w1 wr w' : World} {S R M Lb P k : Nat} {pre es : List Q} {lv : Value} {g0 g1 g2 wk pl en : Int} (h : LI b1 w1 wr S R M Lb P k pre es lv g0 g1 g2 wk pl en) (hb : Below wr.heap.size wr w') : LI b1 w1 w' S R M Lb P k pre es lv g0 g1 g2 wk pl en :=
  ⟨h.kept.below' hb, h.sat.keep hb, h.run.keep hb, fun x => (World.frozen?_of_block (a := ⟨R, x, none⟩) (hb.block R h.run.lt)).trans (h.rfr x), h.lst.keep hb, fun x v hx hv => cell_keeps hb (h.oth x v hx hv)⟩

theorem sset {w : World} {S R M : Nat} {lv qv : Value} {g0 g1 g2 wk : Int} (h : SAt w S R M lv qv g0 g1 g2 wk) (lv' : Value) : SAt (w.setCell ⟨S, 4, none⟩ lv') S R M lv' qv g0 g1 g2 wk :=
  ⟨by rw [cell_set_ne (by omega)]; exact h.s2, by rw [cell_set_ne (by omega)]; exact h.s3, World.cell?_setCell_same _ _ _ (by rw [h.s4]), by rw [cell_set_ne (by omega)]; exact h.s6, by rw [cell_set_ne (by omega)]; exact h.s7, by rw [cell_set_ne (by omega)]; exact h.s8, by rw [cell_set_ne (by omega)]; exact h.s9, by rw [cell_set_ne (by omega)]; exact h.s10, by rw [cell_set_ne (by omega)]; exact h.s15, fun x => by rw [World.frozen?_setCell]; exact h.fr x⟩

/-- The append, and the store into the search. -/
theorem LI.push {b1 : Nat} {w1 wr w2 wa : World} {S R M Lb P k g cap : Nat} {pre es : List Q} {lv : Value} {g0 g1 g2 wk pl en : Int} {e : Q} {row : Option Nat} (h : LI b1 w1 wr S R M Lb P k pre es lv g0 g1 g2 wk pl en) (hb : Below wr.heap.size wr w2)
    (ho : wa.ownsRow b1 77 13 (.slice (some ⟨g, 0, none⟩) (P + es.length + 1) cap) (P + es.length + 1) ((pre ++ es).flatMap encQ ++ encQ e)) (hg : w2.grownBy wa row) (hr : ∀ k, row = some k → b1 ≤ k) (hS : S < b1) (hR : R < b1) (hSR : S ≠ R) (hb1 : b1 ≤ w1.heap.size) (hw1 : w1.heap.size ≤ b1) (hLS : Lb ≠ S) :
    LI b1 w1 (wa.setCell ⟨S, 4, none⟩ (.slice (some ⟨g, 0, none⟩) (P + es.length + 1) cap)) S R M Lb P k pre (es ++ [e]) (.slice (some ⟨g, 0, none⟩) (P + es.length + 1) cap) g0 g1 g2 wk pl en := by
  have h2 := h.keep hb
  have hrow : ∀ q, q < b1 → some q ≠ row := fun q hq e => by have := hr q e.symm; omega
  have bS : wa.heap[S]? = w2.heap[S]? := hg.block S h2.sat.lt (hrow S hS)
  have bR : wa.heap[R]? = w2.heap[R]? := hg.block R h2.run.lt (hrow R hR)
  refine ⟨?_, ?_, ?_, ?_, ?_, fun x v hx hv => ?_⟩
  · exact (h2.kept.grown hg (fun q hq => Or.inr (by have := hr q hq; omega))).setCell (Or.inl (by simp)) _
  · exact sset (h2.sat.of_block bS) _
  · exact (h2.run.of_block bR).of_block (setcell_other _ (Ne.symm hSR))
  · intro x
    rw [World.frozen?_setCell]
    exact (World.frozen?_of_block (a := ⟨R, x, none⟩) bR).trans (h2.rfr x)
  · refine Lst.set (Or.inr ⟨by simp, ?_⟩) hS ?_
    · have e1 : P + (es ++ [e]).length = P + es.length + 1 := by simp; omega
      have e2 : (pre ++ (es ++ [e])).flatMap encQ = (pre ++ es).flatMap encQ ++ encQ e := by simp
      rw [e1, e2]
      exact ho
    · exact hLS
  · rw [World.cell?_setCell_other _ _ _ _ (fun e => hSR (by injection e))]
    exact (World.cell?_of_block (a := ⟨R, x, none⟩) bR).trans (h2.oth x v hx hv)
end Go.Proofs.Ybulkkru.cst

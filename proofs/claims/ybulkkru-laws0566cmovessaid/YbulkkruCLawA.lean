import Derived.Test.YbulkkruMoveB
import Derived.Test.YbulkkruCBuild
import Derived.Laws.StructEq
namespace Go.Proofs.Ybulkkru.cst
open Go.RowKit Go.Proofs.Ybulkkru.net
set_option linter.unusedVariables false

theorem neq28 (a0 a1 a2 : Int) (w : World) : (binOp .neq 28 (.agg #[.int .i64 a0, .int .i64 a1, .int .i64 a2]) (.agg #[.int .i64 a0, .int .i64 a1, .int .i64 a2])).run Yba.prog w = .ok (.bool false) w := by
  have h : (Op.equalIn 10000 28 (.agg #[.int .i64 a0, .int .i64 a1, .int .i64 a2]) (.agg #[.int .i64 a0, .int .i64 a1, .int .i64 a2])).run Yba.prog w = .ok true w := by
    rw [run_equalIn_agg w 9999 28 _ _ (by kernel_rfl) (by kernel_rfl)]
    simp [Program.fieldsOf, Yba.underlying28, Op.eqFields, go_sem, Yba.underlying3]
  simp only [binOp]
  simp [Op.equal, Op.maxDepth, h]

/-- The broker's effective ceiling. -/
def Way (uc : Bool) (ceil cc : Int) : Prop := (uc = false ∧ cc = 1) ∨ (uc = true ∧ ceil < 1 ∧ cc = ceil) ∨ (uc = true ∧ 1 ≤ ceil ∧ cc = 1)

theorem way_is (uc : Bool) (ceil : Int) : ∃ cc, Way uc ceil cc := by
  cases uc
  · exact ⟨1, Or.inl ⟨rfl, rfl⟩⟩
  · by_cases h : ceil < 1
    · exact ⟨ceil, Or.inr (Or.inl ⟨rfl, h, rfl⟩)⟩
    · exact ⟨1, Or.inr (Or.inr ⟨rfl, by omega, rfl⟩)⟩

def fin (ok lt : Bool) (u g a : Int) : Int := match ok && lt with | true => wrap64 (u + wrap64 (g - a)) | false => u

theorem Turned.pre {w1 w' wq : World} {Rb o : Nat} {x y z : Int} (hb : Below w1.heap.size w1 w') (T : Turned w' wq Rb o x y z) : Turned w1 wq Rb o x y z :=
  ⟨T.at0, T.at1, T.at2, fun a v h hn => T.other a v (cell_keeps hb h) hn, fun B h1 h2 => (hb.mono h2).trans (T.below B h1 (Nat.le_trans h2 hb.size))⟩

theorem untr_way {w0 w1 wz : World} {N Rb Qb k b : Nat} {u0 u1 u2 p0 p1 p2 ceil cc : Int} {uc past : Bool} (HB : BuiltC w0 w1 N Rb Qb k b u0 u1 u2 p0 p1 p2 ceil uc past) (hway : Way uc ceil cc) (hbk : b < k) (hk : k ≤ 100) (hb : Below w1.heap.size w1 wz) :
    Calls Yba.prog 39 #[.pointer (some ⟨N, 0, none⟩), .int .i32 b] wz fun e w' => e = .returned (.tuple #[.agg #[.int .i64 (rc cc), .int .i64 0, .int .i64 0], .bool (rok cc past)]) ∧ Below wz.heap.size wz w' := by
  rcases hway with ⟨h, rfl⟩ | ⟨h, hl, rfl⟩ | ⟨h, hl, rfl⟩
  · exact untr_nil N b past wz (cell_keeps hb HB.n14) (cell_keeps hb (HB.nil h))
  · obtain ⟨Cb, h1, h2⟩ := HB.some h
    exact untr_low N Cb k b _ past wz (cell_keeps hb HB.n14) (cell_keeps hb h1) (cell_keeps hb h2) hbk hk hl
  · obtain ⟨Cb, h1, h2⟩ := HB.some h
    exact untr_high N Cb k b _ past wz (cell_keeps hb HB.n14) (cell_keeps hb h1) (cell_keeps hb h2) hbk hk hl

theorem move_built {w0 w1 w' : World} {N Rb Qb k b : Nat} {u0 u1 u2 p0 p1 p2 ceil cc : Int} {uc past : Bool} (HB : BuiltC w0 w1 N Rb Qb k b u0 u1 u2 p0 p1 p2 ceil uc past) (hway : Way uc ceil cc) (hbk : b < k) (hk : k ≤ 100) (hb : Below w1.heap.size w1 w') (d0 d1 d2 g0 g1 g2 : Int) :
    Calls Yba.prog 20 #[.pointer (some ⟨N, 0, none⟩), .int .i32 b, .agg #[.int .i64 d0, .int .i64 d1, .int .i64 d2], .agg #[.int .i64 g0, .int .i64 g1, .int .i64 g2]] w' fun e wq => e = .returned (.tuple #[]) ∧
      Turned w1 wq Rb (b * 13 + 5) (fin (rok cc past) (ltB (atv0 d0 (rc cc) u0 p0) (atv d1 u1 p1) (atv d2 u2 p2) g0 g1 g2) u0 g0 (atv0 d0 (rc cc) u0 p0))
        (fin (rok cc past) (ltB (atv0 d0 (rc cc) u0 p0) (atv d1 u1 p1) (atv d2 u2 p2) g0 g1 g2) u1 g1 (atv d1 u1 p1)) (fin (rok cc past) (ltB (atv0 d0 (rc cc) u0 p0) (atv d1 u1 p1) (atv d2 u2 p2) g0 g1 g2) u2 g2 (atv d2 u2 p2)) := by
  have HP := HB.pre.keep hb
  refine (move_any N Rb Qb k b cc d0 d1 d2 g0 g1 g2 u0 u1 u2 p0 p1 p2 past w' hk hbk HB.hNR (cell_keeps hb HB.n1) (cell_keeps hb HB.n4) (cell_keeps hb HB.n21) HP.pq0 HP.pq1 HP.pq2 HP.ub0 HP.ub1 HP.ub2 (HP.fr _) (HP.fr _) (HP.fr _) (show ∀ w1, Below w'.heap.size w' w1 → _ from fun wz hz => untr_way HB hway hbk hk (hb.trans (hz.mono hb.size)))).mono ?_
  rintro e wq ⟨rfl, hT, hF⟩
  refine ⟨rfl, ?_⟩
  cases ho : rok cc past with
  | false => exact Turned.pre hb (hF (Or.inl ho))
  | true =>
    cases hl : ltB (atv0 d0 (rc cc) u0 p0) (atv d1 u1 p1) (atv d2 u2 p2) g0 g1 g2 with
    | false => exact Turned.pre hb (hF (Or.inr hl))
    | true => exact Turned.pre hb (hT ho hl)

theorem four_start (w : World) (a0 a1 a2 b0 b1 b2 c0 c1 c2 d0 d1 d2 : Int) (t : TypeId) :
    Two w.heap.size a0 a1 a2 b0 b1 b2 ((((w.alloc (.cells #[.int .i64 a0, .int .i64 a1, .int .i64 a2] t)).alloc (.cells #[.int .i64 b0, .int .i64 b1, .int .i64 b2] t)).alloc (.cells #[.int .i64 c0, .int .i64 c1, .int .i64 c2] t)).alloc (.cells #[.int .i64 d0, .int .i64 d1, .int .i64 d2] t)) ∧
    Two (w.heap.size + 2) c0 c1 c2 d0 d1 d2 ((((w.alloc (.cells #[.int .i64 a0, .int .i64 a1, .int .i64 a2] t)).alloc (.cells #[.int .i64 b0, .int .i64 b1, .int .i64 b2] t)).alloc (.cells #[.int .i64 c0, .int .i64 c1, .int .i64 c2] t)).alloc (.cells #[.int .i64 d0, .int .i64 d1, .int .i64 d2] t)) := by
  have t1 := two_start w a0 a1 a2 b0 b1 b2 t t
  generalize hwa : (w.alloc (.cells #[.int .i64 a0, .int .i64 a1, .int .i64 a2] t)).alloc (.cells #[.int .i64 b0, .int .i64 b1, .int .i64 b2] t) = wa at *
  have hs : wa.heap.size = w.heap.size + 2 := by rw [← hwa]; simp
  have t2 := two_start wa c0 c1 c2 d0 d1 d2 t t
  rw [hs] at t2
  have hb : Below wa.heap.size wa ((wa.alloc (.cells #[.int .i64 c0, .int .i64 c1, .int .i64 c2] t)).alloc (.cells #[.int .i64 d0, .int .i64 d1, .int .i64 d2] t)) := ((Below.refl _ _).alloc (Nat.le_refl _) _).alloc (by simp) _
  obtain ⟨x0, x1, x2, x3, x4, x5⟩ := t1
  exact ⟨⟨cell_keeps hb x0, cell_keeps hb x1, cell_keeps hb x2, cell_keeps hb x3, cell_keeps hb x4, cell_keeps hb x5⟩, t2⟩

end Go.Proofs.Ybulkkru.cst

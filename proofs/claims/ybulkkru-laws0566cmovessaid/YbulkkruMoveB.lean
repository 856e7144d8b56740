import Derived.Test.YbulkkruMove
import Derived.Deep.DeepCutAuto
namespace Go.Proofs.Ybulkkru.cst
open Go.RowKit Go.Proofs.Ybulkkru.net
set_option linter.unusedVariables false
attribute [local go_sem] neqNil57 neqSome57 neqNil53

theorem tailA {P : Prop} {w3 w' : World} (hb : Below w3.drew.heap.size w3.drew w') (k : Below w3.heap.size w3 w' → P) : P := k ((Below.refl _ _).drew.trans hb)
theorem tailB {P : Prop} {w3 w' : World} {a b c : Value} {t : TypeId} (hb : Below (w3.alloc (.cells #[a, b, c] t)).drew.heap.size (w3.alloc (.cells #[a, b, c] t)).drew w')
    (k : Below w3.heap.size w3 w' → w3.heap.size ≤ w3.heap.size → Hid (w'.heap[w3.heap.size]? = some (.cells #[a, b, c] t (0, 0))) → w'.cell? ⟨w3.heap.size, 0, none⟩ = some a → w'.cell? ⟨w3.heap.size, 1, none⟩ = some b → w'.cell? ⟨w3.heap.size, 2, none⟩ = some c → w'.frozen? ⟨w3.heap.size, 0, none⟩ = false → w'.frozen? ⟨w3.heap.size, 1, none⟩ = false → w'.frozen? ⟨w3.heap.size, 2, none⟩ = false → P) : P := by
  have hA : w'.heap[w3.heap.size]? = some (.cells #[a, b, c] t (0, 0)) := (hb.block _ (by show w3.heap.size < (w3.alloc _).heap.size; simp)).trans (heap_alloc_new _ _)
  obtain ⟨r0, r1, r2, z0, z1, z2⟩ := res3 hA
  exact k (((Below.refl _ _).alloc (Nat.le_refl _) _).drew.trans (hb.mono (by show w3.heap.size ≤ (w3.alloc _).heap.size; simp))) (Nat.le_refl _) hA r0 r1 r2 z0 z1 z2
theorem tailC {P : Prop} {w3 w1 w' : World} {A : Nat} {a b c : Value} {t : TypeId} (h3 : Below w3.heap.size w3 w1) (hA0 : w3.heap.size ≤ A) (hA : Hid (w1.heap[A]? = some (.cells #[a, b, c] t (0, 0)))) (hb : Below w1.heap.size w1 w')
    (k : Below w3.heap.size w3 w' → w3.heap.size ≤ A → Hid (w'.heap[A]? = some (.cells #[a, b, c] t (0, 0))) → w'.cell? ⟨A, 0, none⟩ = some a → w'.cell? ⟨A, 1, none⟩ = some b → w'.cell? ⟨A, 2, none⟩ = some c → w'.frozen? ⟨A, 0, none⟩ = false → w'.frozen? ⟨A, 1, none⟩ = false → w'.frozen? ⟨A, 2, none⟩ = false → P) : P := by
  have hA' : w'.heap[A]? = some (.cells #[a, b, c] t (0, 0)) := (hb.block _ (lt_of_block hA.out)).trans hA.out
  obtain ⟨r0, r1, r2, z0, z1, z2⟩ := res3 hA'
  exact k (h3.trans (hb.mono h3.size)) hA0 hA' r0 r1 r2 z0 z1 z2
theorem tailD {P : Prop} {w3 w1 w' : World} {a b c : Value} {t : TypeId} (h3 : Below w3.heap.size w3 w1) (hb : Below (w1.alloc (.cells #[a, b, c] t)).heap.size (w1.alloc (.cells #[a, b, c] t)) w')
    (k : Below w3.heap.size w3 w' → w3.heap.size ≤ w1.heap.size → Hid (w'.heap[w1.heap.size]? = some (.cells #[a, b, c] t (0, 0))) → w'.cell? ⟨w1.heap.size, 0, none⟩ = some a → w'.cell? ⟨w1.heap.size, 1, none⟩ = some b → w'.cell? ⟨w1.heap.size, 2, none⟩ = some c → w'.frozen? ⟨w1.heap.size, 0, none⟩ = false → w'.frozen? ⟨w1.heap.size, 1, none⟩ = false → w'.frozen? ⟨w1.heap.size, 2, none⟩ = false → P) : P := by
  have hA : w'.heap[w1.heap.size]? = some (.cells #[a, b, c] t (0, 0)) := (hb.block _ (by simp)).trans (heap_alloc_new _ _)
  obtain ⟨r0, r1, r2, z0, z1, z2⟩ := res3 hA
  exact k ((h3.alloc h3.size _).trans (hb.mono (by simp; have := h3.size; omega))) h3.size hA r0 r1 r2 z0 z1 z2
theorem tailE {P : Prop} {w3 w1 w' : World} (h3 : Below w3.heap.size w3 w1) (hb : Below w1.heap.size w1 w') (k : Below w3.heap.size w3 w' → P) : P := k (h3.trans (hb.mono h3.size))
theorem frozen_keeps {w w' : World} {a : Addr} {v : Value} (hb : Below w.heap.size w w') (h : w.cell? a = some v) (hf : w.frozen? a = false) : w'.frozen? a = false := by
  rw [← hf]
  exact World.frozen?_of_block (w := w) (hb.block _ (World.block_lt_of_cell? w a h))
theorem st3 {w : World} {A : Nat} {a b c x y z : Value} {t : TypeId} {fr : Nat × Nat} (h : w.heap[A]? = some (.cells #[a, b, c] t fr)) :
    (((w.setCell ⟨A, 0, none⟩ x).setCell ⟨A, 1, none⟩ y).setCell ⟨A, 2, none⟩ z).heap[A]? = some (.cells #[x, y, z] t fr) := by
  have e : ∀ (w : World) (i : Nat) (cs : Array Value) (u : Value), w.heap[A]? = some (.cells cs t fr) → (w.setCell ⟨A, i, none⟩ u).heap[A]? = some (.cells (cs.setIfInBounds i u) t fr) := by
    intro w i cs u h
    have hlt := lt_of_block h
    have h' : w.heap[A] = .cells cs t fr := by simpa [Array.getElem?_eq_getElem hlt] using h
    show (w.heap.modify A _)[A]? = _
    rw [Array.getElem?_eq_getElem (by simpa using hlt), Array.getElem_modify_self, h']
    rfl
  have := e _ 2 _ z (e _ 1 _ y (e _ 0 _ x h))
  simpa using this
theorem cells3 {w : World} {b : Nat} {x y z : Value} {t : TypeId} {fr : Nat × Nat} (h : w.heap[b]? = some (.cells #[x, y, z] t fr)) :
    w.cell? ⟨b, 0, none⟩ = some x ∧ w.cell? ⟨b, 1, none⟩ = some y ∧ w.cell? ⟨b, 2, none⟩ = some z := by simp [World.cell?, h]

def atv0 (d c u p : Int) : Int := wrap64 (wrap64 (wrap64 (d + c) + u) - p)
def atv (d u p : Int) : Int := wrap64 (wrap64 (wrap64 d + u) - p)

theorem keep9 {w w1 w' : World} {a0 a1 a2 a3 a4 a5 a6 a7 a8 : Addr} {v0 v1 v2 v3 v4 v5 v6 v7 v8 : Value} (h : w1.cell? a0 = some v0 ∧ w1.cell? a1 = some v1 ∧ w1.cell? a2 = some v2 ∧ w1.cell? a3 = some v3 ∧ w1.cell? a4 = some v4 ∧ w1.cell? a5 = some v5 ∧ w1.cell? a6 = some v6 ∧ w1.cell? a7 = some v7 ∧ w1.cell? a8 = some v8 ∧ Below w.heap.size w w1) (hb : Below w1.heap.size w1 w') :
    w'.cell? a0 = some v0 ∧ w'.cell? a1 = some v1 ∧ w'.cell? a2 = some v2 ∧ w'.cell? a3 = some v3 ∧ w'.cell? a4 = some v4 ∧ w'.cell? a5 = some v5 ∧ w'.cell? a6 = some v6 ∧ w'.cell? a7 = some v7 ∧ w'.cell? a8 = some v8 ∧ Below w.heap.size w w' :=
  ⟨cell_keeps hb h.1, cell_keeps hb h.2.1, cell_keeps hb h.2.2.1, cell_keeps hb h.2.2.2.1, cell_keeps hb h.2.2.2.2.1, cell_keeps hb h.2.2.2.2.2.1, cell_keeps hb h.2.2.2.2.2.2.1, cell_keeps hb h.2.2.2.2.2.2.2.1, cell_keeps hb h.2.2.2.2.2.2.2.2.1, h.2.2.2.2.2.2.2.2.2.trans (hb.mono h.2.2.2.2.2.2.2.2.2.size)⟩
theorem keep9a {w w1 : World} {o : Obj} {a0 a1 a2 a3 a4 a5 a6 a7 a8 : Addr} {v0 v1 v2 v3 v4 v5 v6 v7 v8 : Value} (h : w1.cell? a0 = some v0 ∧ w1.cell? a1 = some v1 ∧ w1.cell? a2 = some v2 ∧ w1.cell? a3 = some v3 ∧ w1.cell? a4 = some v4 ∧ w1.cell? a5 = some v5 ∧ w1.cell? a6 = some v6 ∧ w1.cell? a7 = some v7 ∧ w1.cell? a8 = some v8 ∧ Below w.heap.size w w1) :
    (w1.alloc o).cell? a0 = some v0 ∧ (w1.alloc o).cell? a1 = some v1 ∧ (w1.alloc o).cell? a2 = some v2 ∧ (w1.alloc o).cell? a3 = some v3 ∧ (w1.alloc o).cell? a4 = some v4 ∧ (w1.alloc o).cell? a5 = some v5 ∧ (w1.alloc o).cell? a6 = some v6 ∧ (w1.alloc o).cell? a7 = some v7 ∧ (w1.alloc o).cell? a8 = some v8 ∧ Below w.heap.size w (w1.alloc o) := keep9 h ((Below.refl _ _).alloc (Nat.le_refl _) _)
theorem keep9s {w w1 : World} {a0 a1 a2 a3 a4 a5 a6 a7 a8 : Addr} {v0 v1 v2 v3 v4 v5 v6 v7 v8 : Value} (h : w1.cell? a0 = some v0 ∧ w1.cell? a1 = some v1 ∧ w1.cell? a2 = some v2 ∧ w1.cell? a3 = some v3 ∧ w1.cell? a4 = some v4 ∧ w1.cell? a5 = some v5 ∧ w1.cell? a6 = some v6 ∧ w1.cell? a7 = some v7 ∧ w1.cell? a8 = some v8 ∧ Below w.heap.size w w1) :
    w1.drew.cell? a0 = some v0 ∧ w1.drew.cell? a1 = some v1 ∧ w1.drew.cell? a2 = some v2 ∧ w1.drew.cell? a3 = some v3 ∧ w1.drew.cell? a4 = some v4 ∧ w1.drew.cell? a5 = some v5 ∧ w1.drew.cell? a6 = some v6 ∧ w1.drew.cell? a7 = some v7 ∧ w1.drew.cell? a8 = some v8 ∧ Below w.heap.size w w1.drew := keep9 h (Below.refl _ _).drew
theorem below9 {w w1 : World} {a0 a1 a2 a3 a4 a5 a6 a7 a8 : Addr} {v0 v1 v2 v3 v4 v5 v6 v7 v8 : Value} (h : w1.cell? a0 = some v0 ∧ w1.cell? a1 = some v1 ∧ w1.cell? a2 = some v2 ∧ w1.cell? a3 = some v3 ∧ w1.cell? a4 = some v4 ∧ w1.cell? a5 = some v5 ∧ w1.cell? a6 = some v6 ∧ w1.cell? a7 = some v7 ∧ w1.cell? a8 = some v8 ∧ Below w.heap.size w w1) : Below w.heap.size w w1 := h.2.2.2.2.2.2.2.2.2

set_option maxHeartbeats 4000000 in
set_option maxRecDepth 100000 in
theorem move_any (N Rb Qb k bi : Nat) (cc d0 d1 d2 g0 g1 g2 u0 u1 u2 p0 p1 p2 : Int) (past : Bool) (w : World) (hk : k ≤ 100) (hbi : bi < k) (hNR : N ≠ Rb)
    (h1 : w.cell? ⟨N, 1, none⟩ = some (.slice (some ⟨Rb, 0, none⟩) k k)) (h4 : w.cell? ⟨N, 4, none⟩ = some (.slice none 0 0)) (hq : w.cell? ⟨N, 21, none⟩ = some (.slice (some ⟨Qb, 0, none⟩) (k + 2) (k + 2)))
    (q0 : w.cell? ⟨Qb, (2 + bi) * 3, none⟩ = some (.int .i64 p0)) (q1 : w.cell? ⟨Qb, (2 + bi) * 3 + 1, none⟩ = some (.int .i64 p1)) (q2 : w.cell? ⟨Qb, (2 + bi) * 3 + 2, none⟩ = some (.int .i64 p2))
    (e0 : w.cell? ⟨Rb, bi * 13 + 5, none⟩ = some (.int .i64 u0)) (e1 : w.cell? ⟨Rb, bi * 13 + 6, none⟩ = some (.int .i64 u1)) (e2 : w.cell? ⟨Rb, bi * 13 + 7, none⟩ = some (.int .i64 u2))
    (f0 : w.frozen? ⟨Rb, bi * 13 + 5, none⟩ = false) (f1 : w.frozen? ⟨Rb, bi * 13 + 6, none⟩ = false) (f2 : w.frozen? ⟨Rb, bi * 13 + 7, none⟩ = false)
    (hr : Hid (∀ w1, Below w.heap.size w w1 → Calls Yba.prog 39 #[.pointer (some ⟨N, 0, none⟩), .int .i32 bi] w1 fun e w' => e = .returned (.tuple #[.agg #[.int .i64 (rc cc), .int .i64 0, .int .i64 0], .bool (rok cc past)]) ∧ Below w1.heap.size w1 w')) :
    Calls Yba.prog 20 #[.pointer (some ⟨N, 0, none⟩), .int .i32 bi, .agg #[.int .i64 d0, .int .i64 d1, .int .i64 d2], .agg #[.int .i64 g0, .int .i64 g1, .int .i64 g2]] w fun e w' => e = .returned (.tuple #[]) ∧
      (rok cc past = true → ltB (atv0 d0 (rc cc) u0 p0) (atv d1 u1 p1) (atv d2 u2 p2) g0 g1 g2 = true → Turned w w' Rb (bi * 13 + 5) (wrap64 (u0 + wrap64 (g0 - atv0 d0 (rc cc) u0 p0))) (wrap64 (u1 + wrap64 (g1 - atv d1 u1 p1))) (wrap64 (u2 + wrap64 (g2 - atv d2 u2 p2)))) ∧
      ((rok cc past = false ∨ ltB (atv0 d0 (rc cc) u0 p0) (atv d1 u1 p1) (atv d2 u2 p2) g0 g1 g2 = false) → Turned w w' Rb (bi * 13 + 5) u0 u1 u2) := by
  have b0 : (0 : Int) ≤ (bi : Int) := by omega
  have b1 : (bi : Int) < (k : Int) := by omega
  go_enter Yba.func20, Yba.ntmps20
  go_wp2_with fail
  refine (hr.out _ (by exact ((Below.refl _ _).alloc (Nat.le_refl _) _).alloc (by simp) _)).mono ?_
  rintro e w2 ⟨rfl, hb2⟩
  have hbw2 : Below w.heap.size w w2 := (((Below.refl _ _).alloc (Nat.le_refl _) _).alloc (by simp) _).trans (hb2.mono (by simp; omega))
  obtain ⟨dd0, dd1, dd2, gg0, gg1, gg2⟩ : w2.cell? ⟨w.heap.size, 0, none⟩ = some (.int .i64 d0) ∧ w2.cell? ⟨w.heap.size, 1, none⟩ = some (.int .i64 d1) ∧ w2.cell? ⟨w.heap.size, 2, none⟩ = some (.int .i64 d2) ∧
      w2.cell? ⟨w.heap.size + 1, 0, none⟩ = some (.int .i64 g0) ∧ w2.cell? ⟨w.heap.size + 1, 1, none⟩ = some (.int .i64 g1) ∧ w2.cell? ⟨w.heap.size + 1, 2, none⟩ = some (.int .i64 g2) := by
    obtain ⟨t0, t1, t2, t3, t4, t5⟩ := two_start w d0 d1 d2 g0 g1 g2 28 28
    exact ⟨cell_keeps hb2 t0, cell_keeps hb2 t1, cell_keeps hb2 t2, cell_keeps hb2 t3, cell_keeps hb2 t4, cell_keeps hb2 t5⟩
  clear hb2 hr
  cases hok : rok cc past with
  | false =>
    go_wp2
    exact bodyPost_ret (v := .tuple #[]) (by simp [results, Yba.results20, go_sem]) rfl ⟨rfl, fun h => absurd h (by rw [hok]; decide), fun _ => Turned.of_below (hbw2.alloc hbw2.size _) e0 e1 e2⟩
  | true =>
    have hb3 : Below w.heap.size w (w2.alloc (.cells #[.int .i64 (rc cc), .int .i64 0, .int .i64 0] 28)) := hbw2.alloc hbw2.size _
    have h1' := cell_keeps hb3 h1
    go_wp2_with fail
    generalize hw3 : w2.alloc (.cells #[.int .i64 (rc cc), .int .i64 0, .int .i64 0] 28) = w3 at hb3 h1'
    have F3 : w3.cell? ⟨w2.heap.size, 0, none⟩ = some (.int .i64 (rc cc)) ∧ w3.cell? ⟨w2.heap.size, 1, none⟩ = some (.int .i64 0) ∧ w3.cell? ⟨w2.heap.size, 2, none⟩ = some (.int .i64 0) ∧ Below w2.heap.size w2 w3 := by
      subst hw3
      exact ⟨World.cell?_alloc_at _ _ _ _ rfl, World.cell?_alloc_at _ _ _ _ rfl, World.cell?_alloc_at _ _ _ _ rfl, (Below.refl _ _).alloc (Nat.le_refl _) _⟩
    clear hw3
    obtain ⟨cc0, cc1, cc2, hb23⟩ := F3
    have HF : Hid (w3.cell? ⟨w.heap.size, 0, none⟩ = some (.int .i64 d0) ∧ w3.cell? ⟨w.heap.size, 1, none⟩ = some (.int .i64 d1) ∧ w3.cell? ⟨w.heap.size, 2, none⟩ = some (.int .i64 d2) ∧ w3.cell? ⟨w2.heap.size, 0, none⟩ = some (.int .i64 (rc cc)) ∧ w3.cell? ⟨w2.heap.size, 1, none⟩ = some (.int .i64 0) ∧ w3.cell? ⟨w2.heap.size, 2, none⟩ = some (.int .i64 0) ∧ w3.cell? ⟨Rb, bi * 13 + 5, none⟩ = some (.int .i64 u0) ∧ w3.cell? ⟨Rb, bi * 13 + 6, none⟩ = some (.int .i64 u1) ∧ w3.cell? ⟨Rb, bi * 13 + 7, none⟩ = some (.int .i64 u2) ∧ Below w.heap.size w w3) := ⟨cell_keeps hb23 dd0, cell_keeps hb23 dd1, cell_keeps hb23 dd2, cc0, cc1, cc2, cell_keeps hb3 e0, cell_keeps hb3 e1, cell_keeps hb3 e2, hb3⟩
    have gg0' := cell_keeps hb23 gg0
    have gg1' := cell_keeps hb23 gg1
    have gg2' := cell_keeps hb23 gg2
    clear dd0 dd1 dd2 cc0 cc1 cc2 gg0 gg1 gg2
    go_cut [11] (fun v wq => ∃ A : Nat, v = .pointer (some ⟨A, 0, none⟩) ∧ wq.cell? ⟨A, 0, none⟩ = some (.int .i64 (atv0 d0 (rc cc) u0 p0)) ∧ wq.cell? ⟨A, 1, none⟩ = some (.int .i64 (atv d1 u1 p1)) ∧ wq.cell? ⟨A, 2, none⟩ = some (.int .i64 (atv d2 u2 p2)) ∧ Below w3.heap.size w3 wq)
    case first =>
      go_region_held3 (fun w' => w'.cell? ⟨w.heap.size, 0, none⟩ = some (.int .i64 d0) ∧ w'.cell? ⟨w.heap.size, 1, none⟩ = some (.int .i64 d1) ∧ w'.cell? ⟨w.heap.size, 2, none⟩ = some (.int .i64 d2) ∧ w'.cell? ⟨w2.heap.size, 0, none⟩ = some (.int .i64 (rc cc)) ∧ w'.cell? ⟨w2.heap.size, 1, none⟩ = some (.int .i64 0) ∧ w'.cell? ⟨w2.heap.size, 2, none⟩ = some (.int .i64 0) ∧ w'.cell? ⟨Rb, bi * 13 + 5, none⟩ = some (.int .i64 u0) ∧ w'.cell? ⟨Rb, bi * 13 + 6, none⟩ = some (.int .i64 u1) ∧ w'.cell? ⟨Rb, bi * 13 + 7, none⟩ = some (.int .i64 u2) ∧ Below w.heap.size w w')
      (first | with_reducible exact keep9s HF.out | with_reducible exact keep9 HF.out (((Below.refl _ _).alloc (Nat.le_refl _) _).drew) | with_reducible exact keep9 HF.out h3 | with_reducible exact keep9 HF.out (h3.alloc h3.size _) | with_reducible exact keep9 HF.out (((h3.setCell hA0 _).setCell hA0 _).setCell hA0 _))
      (first
        | (go_at_call 40; refine (plus_any _ _ _ _ _ _ _).mono ?_; rintro e w' ⟨rfl, hb⟩; (first | (with_reducible refine tailB hb (fun h3 hA0 hA r0 r1 r2 z0 z1 z2 => ?_)) | (with_reducible refine tailA hb (fun h3 => ?_)) | (with_reducible refine tailD h3 hb (fun h3 hA0 hA r0 r1 r2 z0 z1 z2 => ?_)) | (with_reducible refine tailC h3 hA0 hA hb (fun h3 hA0 hA r0 r1 r2 z0 z1 z2 => ?_)) | (with_reducible refine tailE h3 hb (fun h3 => ?_))))
        | (go_at_call 25; refine (minus_any _ _ _ _ _ _ _).mono ?_; rintro e w' ⟨rfl, hb⟩; (first | (with_reducible refine tailB hb (fun h3 hA0 hA r0 r1 r2 z0 z1 z2 => ?_)) | (with_reducible refine tailA hb (fun h3 => ?_)) | (with_reducible refine tailD h3 hb (fun h3 hA0 hA r0 r1 r2 z0 z1 z2 => ?_)) | (with_reducible refine tailC h3 hA0 hA hb (fun h3 hA0 hA r0 r1 r2 z0 z1 z2 => ?_)) | (with_reducible refine tailE h3 hb (fun h3 => ?_))))
        | (go_at_call 41; (first | (with_reducible refine (potential_any N Qb k bi 0 p0 p1 p2 _ (cell_keeps (hb3.trans (h3.mono hb3.size)) hq) (cell_keeps (hb3.trans (h3.mono hb3.size)) q0) (cell_keeps (hb3.trans (h3.mono hb3.size)) q1) (cell_keeps (hb3.trans (h3.mono hb3.size)) q2) hbi hk).mono ?_) | (with_reducible refine (potential_any N Qb k bi 0 p0 p1 p2 _ (cell_keeps (hb3.trans ((h3.alloc h3.size _).mono hb3.size)) hq) (cell_keeps (hb3.trans ((h3.alloc h3.size _).mono hb3.size)) q0) (cell_keeps (hb3.trans ((h3.alloc h3.size _).mono hb3.size)) q1) (cell_keeps (hb3.trans ((h3.alloc h3.size _).mono hb3.size)) q2) hbi hk).mono ?_)); rintro e w' ⟨rfl, hb⟩; (first | (with_reducible refine tailB hb (fun h3 hA0 hA r0 r1 r2 z0 z1 z2 => ?_)) | (with_reducible refine tailA hb (fun h3 => ?_)) | (with_reducible refine tailD h3 hb (fun h3 hA0 hA r0 r1 r2 z0 z1 z2 => ?_)) | (with_reducible refine tailC h3 hA0 hA hb (fun h3 hA0 hA r0 r1 r2 z0 z1 z2 => ?_)) | (with_reducible refine tailE h3 hb (fun h3 => ?_)))))
      all_goals (go_wp2_with fail; go_meet)
      all_goals first
        | exact ⟨_, rfl, (cells3 (st3 hA.out)).1, (cells3 (st3 hA.out)).2.1, (cells3 (st3 hA.out)).2.2, ((h3.setCell hA0 _).setCell hA0 _).setCell hA0 _⟩
        | exact ⟨_, rfl, World.cell?_alloc_at _ _ _ _ rfl, World.cell?_alloc_at _ _ _ _ rfl, World.cell?_alloc_at _ _ _ _ rfl, h3.alloc h3.size _⟩
    case rest =>
      obtain ⟨A, rfl, a0, a1, a2, hb3c⟩ := hcut
      have hbc : Below w.heap.size w wc := hb3.trans (hb3c.mono hb3.size)
      have gc0 := cell_keeps hb3c gg0'
      have gc1 := cell_keeps hb3c gg1'
      have gc2 := cell_keeps hb3c gg2'
      clear gg0' gg1' gg2' h1' HF
      go_wp2_with fail
      refine (compare_any _ _ _ _ _ _ _).mono ?_
      rintro e wd ⟨rfl, hbd⟩
      have hwd : Below w.heap.size w wd := hbc.trans (hbd.mono hbc.size)
      have gd0 := cell_keeps hbd gc0
      have gd1 := cell_keeps hbd gc1
      have gd2 := cell_keeps hbd gc2
      have ad0 := cell_keeps hbd a0
      have ad1 := cell_keeps hbd a1
      have ad2 := cell_keeps hbd a2
      have ed0 := cell_keeps hwd e0
      have ed1 := cell_keeps hwd e1
      have ed2 := cell_keeps hwd e2
      have fd0 := frozen_keeps hwd e0 f0
      have fd1 := frozen_keeps hwd e1 f1
      have fd2 := frozen_keeps hwd e2 f2
      cases hlt : ltB (atv0 d0 (rc cc) u0 p0) (atv d1 u1 p1) (atv d2 u2 p2) g0 g1 g2 with
      | false =>
        have hcmp : ¬ cmp3 (atv0 d0 (rc cc) u0 p0) (atv d1 u1 p1) (atv d2 u2 p2) g0 g1 g2 < 0 := by rw [← cmp3_lt] at hlt; simpa using hlt
        go_wp2_with fail
        go_end0
        exact ⟨rfl, fun _ h => absurd h (by rw [hlt]; decide), fun _ => Turned.of_below hwd e0 e1 e2⟩
      | true =>
        have hcmp : cmp3 (atv0 d0 (rc cc) u0 p0) (atv d1 u1 p1) (atv d2 u2 p2) g0 g1 g2 < 0 := by rw [← cmp3_lt] at hlt; simpa using hlt
        go_wp2_with fail
        go_cut [] (fun wq => Turned w wq Rb (bi * 13 + 5) (wrap64 (u0 + wrap64 (g0 - atv0 d0 (rc cc) u0 p0))) (wrap64 (u1 + wrap64 (g1 - atv d1 u1 p1))) (wrap64 (u2 + wrap64 (g2 - atv d2 u2 p2))))
        case first =>
          (first | go_region_with (first
            | (go_at_call 25; refine (minus_any _ _ _ _ _ _ _).mono ?_; rintro e w' ⟨rfl, hb⟩; have hw' : Below w.heap.size w w' := hwd.trans (((Below.refl _ _).drew.trans hb).mono hwd.size); have ew0 := cell_keeps hw' e0; have ew1 := cell_keeps hw' e1; have ew2 := cell_keeps hw' e2)
            | (go_at_call 40; refine (plus_any _ _ _ _ _ _ _).mono ?_; rintro e w'' ⟨rfl, hb'⟩; have hw'' : Below w.heap.size w w'' := hw'.trans (hb'.mono hw'.size); have fw0 := frozen_keeps hw'' e0 f0; have fw1 := frozen_keeps hw'' e1 f1; have fw2 := frozen_keeps hw'' e2 f2; have ey0 := cell_keeps hw'' e0; have ey1 := cell_keeps hw'' e1; have ey2 := cell_keeps hw'' e2)) | fail)
          all_goals (go_wp2_with fail; go_meet; exact Turned.of_store hw'' e0 e1 e2)
        case rest =>
          have h4' := hcut.other _ _ h4 (Or.inl hNR)
          go_wp2_with fail
          go_end0
          exact ⟨rfl, fun _ _ => hcut, fun h => by rcases h with h | h <;> simp_all⟩

end Go.Proofs.Ybulkkru.cst

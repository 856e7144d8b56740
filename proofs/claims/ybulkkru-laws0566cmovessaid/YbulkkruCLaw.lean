import Derived.Test.YbulkkruCLawA
import Derived.Deep.DeepCutAuto
import Derived.BigQuiet
namespace Go.Proofs.Ybulkkru.cst
open Go.RowKit Go.Proofs.Ybulkkru.net
set_option linter.unusedVariables false
attribute [local go_sem] neq28

theorem keepL {w1 w' : World} {a0 a1 a2 a3 a4 a5 : Addr} {v0 v1 v2 v3 v4 v5 : Value} (h : w1.cell? a0 = some v0 ∧ w1.cell? a1 = some v1 ∧ w1.cell? a2 = some v2 ∧ w1.cell? a3 = some v3 ∧ w1.cell? a4 = some v4 ∧ w1.cell? a5 = some v5) (hb : Below w1.heap.size w1 w') : w'.cell? a0 = some v0 ∧ w'.cell? a1 = some v1 ∧ w'.cell? a2 = some v2 ∧ w'.cell? a3 = some v3 ∧ w'.cell? a4 = some v4 ∧ w'.cell? a5 = some v5 :=
  ⟨cell_keeps hb h.1, cell_keeps hb h.2.1, cell_keeps hb h.2.2.1, cell_keeps hb h.2.2.2.1, cell_keeps hb h.2.2.2.2.1, cell_keeps hb h.2.2.2.2.2⟩
theorem keepLT {w1 w' : World} {A B Rb o : Nat} {x y z : Int} {v0 v1 v2 v3 v4 v5 : Value} (h : w1.cell? ⟨A, 0, none⟩ = some v0 ∧ w1.cell? ⟨A, 1, none⟩ = some v1 ∧ w1.cell? ⟨A, 2, none⟩ = some v2 ∧ w1.cell? ⟨B, 0, none⟩ = some v3 ∧ w1.cell? ⟨B, 1, none⟩ = some v4 ∧ w1.cell? ⟨B, 2, none⟩ = some v5) (T : Turned w1 w' Rb o x y z) (hA : A ≠ Rb) (hB : B ≠ Rb) :
    w'.cell? ⟨A, 0, none⟩ = some v0 ∧ w'.cell? ⟨A, 1, none⟩ = some v1 ∧ w'.cell? ⟨A, 2, none⟩ = some v2 ∧ w'.cell? ⟨B, 0, none⟩ = some v3 ∧ w'.cell? ⟨B, 1, none⟩ = some v4 ∧ w'.cell? ⟨B, 2, none⟩ = some v5 :=
  ⟨T.other _ _ h.1 (Or.inl hA), T.other _ _ h.2.1 (Or.inl hA), T.other _ _ h.2.2.1 (Or.inl hA), T.other _ _ h.2.2.2.1 (Or.inl hB), T.other _ _ h.2.2.2.2.1 (Or.inl hB), T.other _ _ h.2.2.2.2.2 (Or.inl hB)⟩

theorem keepc11 {w1 w' : World} {a0 a1 a2 a3 a4 a5 a6 a7 a8 a9 a10 : Addr} {v0 v1 v2 v3 v4 v5 v6 v7 v8 v9 v10 : Value} (h : w1.cell? a0 = some v0 ∧ w1.cell? a1 = some v1 ∧ w1.cell? a2 = some v2 ∧ w1.cell? a3 = some v3 ∧ w1.cell? a4 = some v4 ∧ w1.cell? a5 = some v5 ∧ w1.cell? a6 = some v6 ∧ w1.cell? a7 = some v7 ∧ w1.cell? a8 = some v8 ∧ w1.cell? a9 = some v9 ∧ w1.cell? a10 = some v10) (hb : Below w1.heap.size w1 w') : w'.cell? a0 = some v0 ∧ w'.cell? a1 = some v1 ∧ w'.cell? a2 = some v2 ∧ w'.cell? a3 = some v3 ∧ w'.cell? a4 = some v4 ∧ w'.cell? a5 = some v5 ∧ w'.cell? a6 = some v6 ∧ w'.cell? a7 = some v7 ∧ w'.cell? a8 = some v8 ∧ w'.cell? a9 = some v9 ∧ w'.cell? a10 = some v10 :=
  ⟨cell_keeps hb h.1, cell_keeps hb h.2.1, cell_keeps hb h.2.2.1, cell_keeps hb h.2.2.2.1, cell_keeps hb h.2.2.2.2.1, cell_keeps hb h.2.2.2.2.2.1, cell_keeps hb h.2.2.2.2.2.2.1, cell_keeps hb h.2.2.2.2.2.2.2.1, cell_keeps hb h.2.2.2.2.2.2.2.2.1, cell_keeps hb h.2.2.2.2.2.2.2.2.2.1, cell_keeps hb h.2.2.2.2.2.2.2.2.2.2⟩

/-- All that the law looks at, behind the move. -/
structure CDone (w : World) (N Rb Qb k b : Nat) (f0 f1 f2 p0 p1 p2 : Int) : Prop where
  n1 : w.cell? ⟨N, 1, none⟩ = some (.slice (some ⟨Rb, 0, none⟩) k k)
  n6 : w.cell? ⟨N, 6, none⟩ = some (.slice none 0 0)
  n21 : w.cell? ⟨N, 21, none⟩ = some (.slice (some ⟨Qb, 0, none⟩) (k + 2) (k + 2))
  b0 : w.cell? ⟨Rb, b * 13 + 5, none⟩ = some (.int .i64 f0)
  b1 : w.cell? ⟨Rb, b * 13 + 6, none⟩ = some (.int .i64 f1)
  b2 : w.cell? ⟨Rb, b * 13 + 7, none⟩ = some (.int .i64 f2)
  oth : ∀ q, q < k → q ≠ b → w.cell? ⟨Rb, q * 13 + 5, none⟩ = some (.int .i64 q) ∧ w.cell? ⟨Rb, q * 13 + 6, none⟩ = some (.int .i64 0) ∧ w.cell? ⟨Rb, q * 13 + 7, none⟩ = some (.int .i64 0)
  q0 : w.cell? ⟨Qb, 0, none⟩ = some (.int .i64 0)
  q1 : w.cell? ⟨Qb, 1, none⟩ = some (.int .i64 7)
  q2 : w.cell? ⟨Qb, 2, none⟩ = some (.int .i64 0)
  pq0 : w.cell? ⟨Qb, (2 + b) * 3, none⟩ = some (.int .i64 p0)
  pq1 : w.cell? ⟨Qb, (2 + b) * 3 + 1, none⟩ = some (.int .i64 p1)
  pq2 : w.cell? ⟨Qb, (2 + b) * 3 + 2, none⟩ = some (.int .i64 p2)

theorem CDone.keep {w w' : World} {N Rb Qb k b : Nat} {f0 f1 f2 p0 p1 p2 : Int} (h : CDone w N Rb Qb k b f0 f1 f2 p0 p1 p2) (hb : Below w.heap.size w w') : CDone w' N Rb Qb k b f0 f1 f2 p0 p1 p2 :=
  ⟨cell_keeps hb h.n1, cell_keeps hb h.n6, cell_keeps hb h.n21, cell_keeps hb h.b0, cell_keeps hb h.b1, cell_keeps hb h.b2,
    fun q hq hn => ⟨cell_keeps hb (h.oth q hq hn).1, cell_keeps hb (h.oth q hq hn).2.1, cell_keeps hb (h.oth q hq hn).2.2⟩,
    cell_keeps hb h.q0, cell_keeps hb h.q1, cell_keeps hb h.q2, cell_keeps hb h.pq0, cell_keeps hb h.pq1, cell_keeps hb h.pq2⟩

theorem CDone.of {w0 w1 wc : World} {N Rb Qb k b : Nat} {u0 u1 u2 p0 p1 p2 ceil f0 f1 f2 : Int} {uc past : Bool} (HB : BuiltC w0 w1 N Rb Qb k b u0 u1 u2 p0 p1 p2 ceil uc past) (T : Turned w1 wc Rb (b * 13 + 5) f0 f1 f2) : CDone wc N Rb Qb k b f0 f1 f2 p0 p1 p2 :=
  ⟨T.other _ _ HB.n1 (Or.inl HB.hNR), T.other _ _ HB.n6 (Or.inl HB.hNR), T.other _ _ HB.n21 (Or.inl HB.hNR), T.at0, T.at1, T.at2,
    fun q hq hn => by
      obtain ⟨e0, e1, e2⟩ := HB.pre.oth q hq hn
      refine ⟨T.other _ _ e0 (Or.inr ?_), T.other _ _ e1 (Or.inr ?_), T.other _ _ e2 (Or.inr ?_)⟩ <;> (simp only; omega),
    T.other _ _ HB.pre.q0 (Or.inl HB.pre.hQR), T.other _ _ HB.pre.q1 (Or.inl HB.pre.hQR), T.other _ _ HB.pre.q2 (Or.inl HB.pre.hQR),
    T.other _ _ HB.pre.pq0 (Or.inl HB.pre.hQR), T.other _ _ HB.pre.pq1 (Or.inl HB.pre.hQR), T.other _ _ HB.pre.pq2 (Or.inl HB.pre.hQR)⟩

set_option maxHeartbeats 8000000 in
set_option maxRecDepth 100000 in
theorem law_any (nb sel : Nat) (u0 u1 u2 p0 p1 p2 d0 d1 d2 g0 g1 g2 ceil : Int) (uc past : Bool) (w : World) (hnb : nb < 256) (hsel : sel < 256) :
    Calls Yba.prog 6 #[.int .u8 nb, .int .u8 sel, .agg #[.int .i64 u0, .int .i64 u1, .int .i64 u2], .agg #[.int .i64 p0, .int .i64 p1, .int .i64 p2], .agg #[.int .i64 d0, .int .i64 d1, .int .i64 d2], .agg #[.int .i64 g0, .int .i64 g1, .int .i64 g2], .bool uc, .int .i64 ceil, .bool past] w
      fun e w' => e = .returned (.bool true) ∧ Below w.heap.size w w' := by
  obtain ⟨cc, hway⟩ := way_is uc ceil
  obtain ⟨k, hk⟩ : ∃ k : Nat, nb % 8 + 1 = k := ⟨_, rfl⟩
  obtain ⟨b, hb⟩ : ∃ b : Nat, sel % k = b := ⟨_, rfl⟩
  have hk8 : k ≤ 8 := by omega
  have hbk : b < k := by rw [← hb]; exact Nat.mod_lt _ (by omega)
  go_enter Yba.func6, Yba.ntmps6
  go_wp2_with fail
  refine (cbuild_any nb sel u0 u1 u2 p0 p1 p2 ceil uc past _ hnb hsel).mono ?_
  rintro e w1 ⟨N, Rb, Qb, rfl, HB⟩
  rw [hk, hb] at HB ⊢
  clear hk hb hnb hsel
  obtain ⟨⟨x0, x1, x2, x3, x4, x5⟩, ⟨x6, x7, x8, x9, x10, x11⟩⟩ := four_start w u0 u1 u2 p0 p1 p2 d0 d1 d2 g0 g1 g2 23
  generalize hw0 : (((w.alloc (.cells #[.int .i64 u0, .int .i64 u1, .int .i64 u2] 23)).alloc (.cells #[.int .i64 p0, .int .i64 p1, .int .i64 p2] 23)).alloc (.cells #[.int .i64 d0, .int .i64 d1, .int .i64 d2] 23)).alloc (.cells #[.int .i64 g0, .int .i64 g1, .int .i64 g2] 23) = w0 at x0 x1 x2 x3 x4 x5 x6 x7 x8 x9 x10 x11 HB
  have hs0 : w0.heap.size = w.heap.size + 4 := by rw [← hw0]; simp
  have hb0 : Below w.heap.size w w0 := by rw [← hw0]; exact ((((Below.refl _ _).alloc (Nat.le_refl _) _).alloc (by simp) _).alloc (by simp; omega) _).alloc (by simp; omega) _
  clear hw0
  have h01 := HB.pre.below
  obtain ⟨D, hD⟩ : ∃ D, w.heap.size + 1 + 1 = D := ⟨_, rfl⟩
  obtain ⟨G, hG⟩ : ∃ G, D + 1 = G := ⟨_, rfl⟩
  rw [hD, hG]
  have y0 := cell_keeps h01 x0
  have y1 := cell_keeps h01 x1
  have y2 := cell_keeps h01 x2
  have y3 := cell_keeps h01 x3
  have y4 := cell_keeps h01 x4
  have y5 := cell_keeps h01 x5
  have y6 : w1.cell? ⟨D, 0, none⟩ = some (.int .i64 d0) := by rw [← hD]; exact cell_keeps h01 x6
  have y7 : w1.cell? ⟨D, 1, none⟩ = some (.int .i64 d1) := by rw [← hD]; exact cell_keeps h01 x7
  have y8 : w1.cell? ⟨D, 2, none⟩ = some (.int .i64 d2) := by rw [← hD]; exact cell_keeps h01 x8
  have y9 : w1.cell? ⟨G, 0, none⟩ = some (.int .i64 g0) := by rw [← hG, ← hD]; exact cell_keeps h01 x9
  have y10 : w1.cell? ⟨G, 1, none⟩ = some (.int .i64 g1) := by rw [← hG, ← hD]; exact cell_keeps h01 x10
  have y11 : w1.cell? ⟨G, 2, none⟩ = some (.int .i64 g2) := by rw [← hG, ← hD]; exact cell_keeps h01 x11
  clear x0 x1 x2 x3 x4 x5 x6 x7 x8 x9 x10 x11
  have n1 := HB.n1
  have hR := HB.pre.hR
  have hs1 := h01.size
  have HBH : Hid (BuiltC w0 w1 N Rb Qb k b u0 u1 u2 p0 p1 p2 ceil uc past) := HB
  clear HB
  go_upto_region 3 with (fail)
  go_cut [] (fun wq => Turned w1 wq Rb (b * 13 + 5) (fin (rok cc past) (ltB (atv0 d0 (rc cc) u0 p0) (atv d1 u1 p1) (atv d2 u2 p2) g0 g1 g2) u0 g0 (atv0 d0 (rc cc) u0 p0))
    (fin (rok cc past) (ltB (atv0 d0 (rc cc) u0 p0) (atv d1 u1 p1) (atv d2 u2 p2) g0 g1 g2) u1 g1 (atv d1 u1 p1))
    (fin (rok cc past) (ltB (atv0 d0 (rc cc) u0 p0) (atv d1 u1 p1) (atv d2 u2 p2) g0 g1 g2) u2 g2 (atv d2 u2 p2)))
  case first =>
    have HY : Hid (w1.cell? ⟨D, 0, none⟩ = some (.int .i64 d0) ∧ w1.cell? ⟨D, 1, none⟩ = some (.int .i64 d1) ∧ w1.cell? ⟨D, 2, none⟩ = some (.int .i64 d2) ∧ w1.cell? ⟨G, 0, none⟩ = some (.int .i64 g0) ∧ w1.cell? ⟨G, 1, none⟩ = some (.int .i64 g1) ∧ w1.cell? ⟨G, 2, none⟩ = some (.int .i64 g2)) := ⟨y6, y7, y8, y9, y10, y11⟩
    have hwb : IntKind.i32.wrap (b : Int) = (b : Int) := by rw [IntKind.wrap_i32]; omega
    have hne2 : D ≠ Rb := by omega
    have hne3 : G ≠ Rb := by omega
    go_region_held3 (fun w' => w'.cell? ⟨D, 0, none⟩ = some (.int .i64 d0) ∧ w'.cell? ⟨D, 1, none⟩ = some (.int .i64 d1) ∧ w'.cell? ⟨D, 2, none⟩ = some (.int .i64 d2) ∧ w'.cell? ⟨G, 0, none⟩ = some (.int .i64 g0) ∧ w'.cell? ⟨G, 1, none⟩ = some (.int .i64 g1) ∧ w'.cell? ⟨G, 2, none⟩ = some (.int .i64 g2))
      (first | with_reducible exact keepL HY.out (Below.refl _ _).drew | with_reducible exact keepL HY.out h3 | with_reducible exact keepLT HY.out hT hne2 hne3)
      (first
      | (go_at_call 21; refine (cmk_any _ _ _ _).mono ?_; rintro e w' ⟨rfl, hb⟩; (first | (with_reducible refine tailA hb (fun h3 => ?_)) | (with_reducible refine tailE h3 hb (fun h3 => ?_))))
      | (go_at_call 20; (try rw [hwb]); refine (move_built HBH.out hway hbk (by omega) h3 d0 d1 d2 g0 g1 g2).mono ?_; rintro e wq ⟨rfl, hT⟩))
    all_goals (go_wp2_with fail; go_meet; exact hT)
  case rest =>
    have n1c := hcut.other _ _ n1 (Or.inl HBH.out.hNR)
    have n6c := hcut.other _ _ HBH.out.n6 (Or.inl HBH.out.hNR)
    have n21c := hcut.other _ _ HBH.out.n21 (Or.inl HBH.out.hNR)
    have hWR : w.heap.size ≠ Rb := by omega
    have hWR1 : w.heap.size + 1 ≠ Rb := by omega
    have hDR : D ≠ Rb := by omega
    have hGR : G ≠ Rb := by omega
    have y0c := hcut.other _ _ y0 (Or.inl hWR)
    have y1c := hcut.other _ _ y1 (Or.inl hWR)
    have y2c := hcut.other _ _ y2 (Or.inl hWR)
    have y3c := hcut.other _ _ y3 (Or.inl hWR1)
    have y4c := hcut.other _ _ y4 (Or.inl hWR1)
    have y5c := hcut.other _ _ y5 (Or.inl hWR1)
    have y6c := hcut.other _ _ y6 (Or.inl hDR)
    have y7c := hcut.other _ _ y7 (Or.inl hDR)
    have y8c := hcut.other _ _ y8 (Or.inl hDR)
    have y9c := hcut.other _ _ y9 (Or.inl hGR)
    have y10c := hcut.other _ _ y10 (Or.inl hGR)
    have y11c := hcut.other _ _ y11 (Or.inl hGR)
    have hbc : Below w.heap.size w wc := hb0.trans ((h01.mono (by omega)).trans (hcut.below _ (by omega) (by omega)))
    have HC : Hid (CDone wc N Rb Qb k b (fin (rok cc past) (ltB (atv0 d0 (rc cc) u0 p0) (atv d1 u1 p1) (atv d2 u2 p2) g0 g1 g2) u0 g0 (atv0 d0 (rc cc) u0 p0)) (fin (rok cc past) (ltB (atv0 d0 (rc cc) u0 p0) (atv d1 u1 p1) (atv d2 u2 p2) g0 g1 g2) u1 g1 (atv d1 u1 p1)) (fin (rok cc past) (ltB (atv0 d0 (rc cc) u0 p0) (atv d1 u1 p1) (atv d2 u2 p2) g0 g1 g2) u2 g2 (atv d2 u2 p2)) p0 p1 p2) := CDone.of HBH.out hcut
    clear y0 y1 y2 y3 y4 y5 y6 y7 y8 y9 y10 y11 n1 hcut
    obtain ⟨wm, rfl⟩ : ∃ wm, wm = wc := ⟨_, rfl⟩
    rcases hway with ⟨rfl, rfl⟩ | ⟨rfl, hl, rfl⟩ | ⟨rfl, hl, rfl⟩
    · go_upto_region 12 with (fail)
      have hbd : Below wm.heap.size wm (wm.alloc (.cells #[.int .i64 0, .int .i64 0, .int .i64 0] 28)) := (Below.refl _ _).alloc (Nat.le_refl _) _
      have hC := cells3 (heap_alloc_new wm (.cells #[.int .i64 0, .int .i64 0, .int .i64 0] 28))
      generalize hwd : wm.alloc (.cells #[.int .i64 0, .int .i64 0, .int .i64 0] 28) = wd at hbd hC ⊢
      have hrc : rc 1 = 0 := rfl
      have k0 : wd.cell? ⟨wm.heap.size, 0, none⟩ = some (.int .i64 (rc 1)) := by rw [hrc]; exact hC.1
      have k1 := hC.2.1
      have k2 := hC.2.2
      clear hC hwd hrc
      have y0d := cell_keeps hbd y0c
      have y1d := cell_keeps hbd y1c
      have y2d := cell_keeps hbd y2c
      have y3d := cell_keeps hbd y3c
      have y4d := cell_keeps hbd y4c
      have y5d := cell_keeps hbd y5c
      have y6d := cell_keeps hbd y6c
      have y7d := cell_keeps hbd y7c
      have y8d := cell_keeps hbd y8c
      have y9d := cell_keeps hbd y9c
      have y10d := cell_keeps hbd y10c
      have y11d := cell_keeps hbd y11c
      go_upto_if 70 with (go_at_call 21; refine (cmk_any _ _ _ _).mono ?_; rintro e we ⟨rfl, hbe⟩)
      have hef : Below wd.heap.size wd (we.alloc (.cells #[.int .i64 u0, .int .i64 u1, .int .i64 u2] 28)) := hbe.alloc hbe.size _
      have HW := heap_alloc_new we (.cells #[.int .i64 u0, .int .i64 u1, .int .i64 u2] 28)
      generalize hwf : we.alloc (.cells #[.int .i64 u0, .int .i64 u1, .int .i64 u2] 28) = wf at hef HW ⊢
      clear hwf
      have HWH : Hid (wf.heap[we.heap.size]? = some (.cells #[.int .i64 u0, .int .i64 u1, .int .i64 u2] 28 (0, 0))) := HW
      have hcf : Below wm.heap.size wm wf := hbd.trans (hef.mono hbd.size)
      have hWb : wm.heap.size ≤ we.heap.size := Nat.le_trans hbd.size hbe.size
      clear HW
      have y0f := cell_keeps hef y0d
      have y1f := cell_keeps hef y1d
      have y2f := cell_keeps hef y2d
      have y3f := cell_keeps hef y3d
      have y4f := cell_keeps hef y4d
      have y5f := cell_keeps hef y5d
      have y6f := cell_keeps hef y6d
      have y7f := cell_keeps hef y7d
      have y8f := cell_keeps hef y8d
      have y9f := cell_keeps hef y9d
      have y10f := cell_keeps hef y10d
      have y11f := cell_keeps hef y11d
      have k0f := cell_keeps hef k0
      have k1f := cell_keeps hef k1
      have k2f := cell_keeps hef k2
      clear y0d y1d y2d y3d y4d y5d y6d y7d y8d y9d y10d y11d k0 k1 k2
      go_cut [] (fun wq => wq.cell? ⟨we.heap.size, 0, none⟩ = some (.int .i64 (fin (rok 1 past) (ltB (atv0 d0 (rc 1) u0 p0) (atv d1 u1 p1) (atv d2 u2 p2) g0 g1 g2) u0 g0 (atv0 d0 (rc 1) u0 p0))) ∧ wq.cell? ⟨we.heap.size, 1, none⟩ = some (.int .i64 (fin (rok 1 past) (ltB (atv0 d0 (rc 1) u0 p0) (atv d1 u1 p1) (atv d2 u2 p2) g0 g1 g2) u1 g1 (atv d1 u1 p1))) ∧ wq.cell? ⟨we.heap.size, 2, none⟩ = some (.int .i64 (fin (rok 1 past) (ltB (atv0 d0 (rc 1) u0 p0) (atv d1 u1 p1) (atv d2 u2 p2) g0 g1 g2) u2 g2 (atv d2 u2 p2))) ∧ Below wm.heap.size wm wq)
      case first =>
        have hok : rok 1 past = true := rfl
        obtain ⟨lt, hlt⟩ : ∃ lt, ltB (atv0 d0 (rc 1) u0 p0) (atv d1 u1 p1) (atv d2 u2 p2) g0 g1 g2 = lt := ⟨_, rfl⟩
        go_upto_region 15 with (fail)
        have hfg : Below wf.heap.size wf (wf.alloc (.cells #[.int .i64 (wrap64 (wrap64 (wrap64 (d0 + rc 1) + u0) - p0)), .int .i64 (wrap64 (wrap64 (wrap64 d1 + u1) - p1)), .int .i64 (wrap64 (wrap64 (wrap64 d2 + u2) - p2))] 28)) := (Below.refl _ _).alloc (Nat.le_refl _) _
        have hA := cells3 (heap_alloc_new wf (.cells #[.int .i64 (wrap64 (wrap64 (wrap64 (d0 + rc 1) + u0) - p0)), .int .i64 (wrap64 (wrap64 (wrap64 d1 + u1) - p1)), .int .i64 (wrap64 (wrap64 (wrap64 d2 + u2) - p2))] 28))
        generalize hwg : wf.alloc (.cells #[.int .i64 (wrap64 (wrap64 (wrap64 (d0 + rc 1) + u0) - p0)), .int .i64 (wrap64 (wrap64 (wrap64 d1 + u1) - p1)), .int .i64 (wrap64 (wrap64 (wrap64 d2 + u2) - p2))] 28) = wg at hfg hA ⊢
        clear hwg
        have A0 : wg.cell? ⟨wf.heap.size, 0, none⟩ = some (.int .i64 (atv0 d0 (rc 1) u0 p0)) := hA.1
        have A1 : wg.cell? ⟨wf.heap.size, 1, none⟩ = some (.int .i64 (atv d1 u1 p1)) := hA.2.1
        have A2 : wg.cell? ⟨wf.heap.size, 2, none⟩ = some (.int .i64 (atv d2 u2 p2)) := hA.2.2
        clear hA
        have g9 := cell_keeps hfg y9f
        have g10 := cell_keeps hfg y10f
        have g11 := cell_keeps hfg y11f
        go_upto_region 16 with (go_at_call 21; refine (cmk_any _ _ _ _).mono ?_; rintro e wh ⟨rfl, hbh⟩)
        have hgi : Below wg.heap.size wg (wh.alloc (.cells #[.int .i64 g0, .int .i64 g1, .int .i64 g2] 28)) := hbh.alloc hbh.size _
        have hB := cells3 (heap_alloc_new wh (.cells #[.int .i64 g0, .int .i64 g1, .int .i64 g2] 28))
        generalize hwi : wh.alloc (.cells #[.int .i64 g0, .int .i64 g1, .int .i64 g2] 28) = wi at hgi hB ⊢
        clear hwi
        obtain ⟨B0, B1, B2⟩ := hB
        have A0i := cell_keeps hgi A0
        have A1i := cell_keeps hgi A1
        have A2i := cell_keeps hgi A2
        go_upto_if 109 with (go_at_call 22; refine (clt_any _ _ _ _ _ _ _).mono ?_; rintro e wj ⟨rfl, hbj⟩; rw [hlt])
        have hfj : Below wf.heap.size wf wj := (hfg.trans (hgi.mono hfg.size)).trans (hbj.mono (Nat.le_trans hfg.size hgi.size))
        have hcj : Below wm.heap.size wm wj := hcf.trans (hfj.mono hcf.size)
        have HWj : Hid (wj.heap[we.heap.size]? = some (.cells #[.int .i64 u0, .int .i64 u1, .int .i64 u2] 28 (0, 0))) := show _ = _ from (hfj.block _ (lt_of_block HWH.out)).trans HWH.out
        cases lt with
        | false =>
          go_wp2_with fail
          go_meet
          obtain ⟨r0, r1, r2⟩ := cells3 HWj.out
          rw [hok, hlt]
          exact ⟨r0, r1, r2, hcj⟩
        | true =>
          obtain ⟨r0, r1, r2, z0, z1, z2⟩ := res3 HWj.out
          have A0j := cell_keeps hbj A0i
          have A1j := cell_keeps hbj A1i
          have A2j := cell_keeps hbj A2i
          have j0 := cell_keeps hfj y0f
          have j1 := cell_keeps hfj y1f
          have j2 := cell_keeps hfj y2f
          have j9 := cell_keeps hfj y9f
          have j10 := cell_keeps hfj y10f
          have j11 := cell_keeps hfj y11f
          go_wp2_with fail
          go_meet
          obtain ⟨s0, s1, s2⟩ := cells3 (st3 HWj.out (x := .int .i64 (wrap64 (u0 + wrap64 (g0 - atv0 d0 (rc 1) u0 p0)))) (y := .int .i64 (wrap64 (u1 + wrap64 (g1 - atv d1 u1 p1)))) (z := .int .i64 (wrap64 (u2 + wrap64 (g2 - atv d2 u2 p2)))))
          rw [hok, hlt]
          exact ⟨s0, s1, s2, ((hcj.setCell hWb _).setCell hWb _).setCell hWb _⟩
      case rest =>
        generalize (fin (rok 1 past) (ltB (atv0 d0 (rc 1) u0 p0) (atv d1 u1 p1) (atv d2 u2 p2) g0 g1 g2) u0 g0 (atv0 d0 (rc 1) u0 p0)) = f0 at HC hcut
        generalize (fin (rok 1 past) (ltB (atv0 d0 (rc 1) u0 p0) (atv d1 u1 p1) (atv d2 u2 p2) g0 g1 g2) u1 g1 (atv d1 u1 p1)) = f1 at HC hcut
        generalize (fin (rok 1 past) (ltB (atv0 d0 (rc 1) u0 p0) (atv d1 u1 p1) (atv d2 u2 p2) g0 g1 g2) u2 g2 (atv d2 u2 p2)) = f2 at HC hcut
        obtain ⟨m0, m1, m2, hcw⟩ := hcut
        have y3w := cell_keeps hcw y3c
        have y4w := cell_keeps hcw y4c
        have y5w := cell_keeps hcw y5c
        have HD : Hid (CDone wc N Rb Qb k b f0 f1 f2 p0 p1 p2) := HC.out.keep hcw
        have HDn1 := HD.out.n1
        have b0w := HD.out.b0
        have b1w := HD.out.b1
        have b2w := HD.out.b2
        have bi0 : (0 : Int) ≤ (b : Int) := by omega
        have bi1 : (b : Int) < (k : Int) := by omega
        have hbw : Below w.heap.size w wc := hbc.trans (hcw.mono hbc.size)
        go_upto_region 18 with (fail)
        go_region_held3 (fun w' => w'.cell? ⟨N, 1, none⟩ = some (.slice (some ⟨Rb, 0, none⟩) k k) ∧ w'.cell? ⟨Rb, b * 13 + 5, none⟩ = some (.int .i64 f0) ∧ w'.cell? ⟨Rb, b * 13 + 6, none⟩ = some (.int .i64 f1) ∧ w'.cell? ⟨Rb, b * 13 + 7, none⟩ = some (.int .i64 f2) ∧ w'.cell? ⟨we.heap.size, 0, none⟩ = some (.int .i64 f0) ∧ w'.cell? ⟨we.heap.size, 1, none⟩ = some (.int .i64 f1) ∧ w'.cell? ⟨we.heap.size, 2, none⟩ = some (.int .i64 f2))
          (exact ⟨HDn1, b0w, b1w, b2w, m0, m1, m2⟩) (fail)
        clear b0w b1w b2w m0 m1 m2
        go_wp2_with fail
        go_loopw [28] (fun v wr => ∃ j : Nat, j ≤ k ∧ v = .int .i64 j ∧ Below wc.heap.size wc wr) (fun v _ => k - (intOf v).toNat)
        case atStart => exact ⟨0, Nat.zero_le _, rfl, (Below.refl _ _).drew⟩
        case round =>
          obtain ⟨j, hj, rfl, hbr⟩ := hrel
          by_cases hlt : j < k
          · have j0 : (0 : Int) ≤ (j : Int) := by omega
            have j1 : (j : Int) < (k : Int) := by omega
            by_cases hjb : j = b
            · rw [hjb] at hlt j1 ⊢
              go_wp2_with fail
              go_roundw
              case rel => exact ⟨b + 1, by omega, by go_num, hbr⟩
              case measure => simp [intOf]; omega
            · have hne : ((j : Int) == (b : Int)) = false := beq_eq_false_iff_ne.2 (by omega)
              obtain ⟨o0, o1, o2⟩ := (HD.out.keep hbr).oth j hlt hjb
              have n1r := cell_keeps hbr HDn1
              go_wp2_with fail
              go_roundw
              case rel => exact ⟨j + 1, by omega, by go_num, hbr⟩
              case measure => simp [intOf]; omega
          · have hjk : j = k := by omega
            rw [hjk]
            clear hlt hjk
            have HE := HD.out.keep hbr
            have c0 : (0 : Int) ≤ 2 + (b : Int) := by omega
            obtain ⟨k2, hk2⟩ : ∃ k2, k + 2 = k2 := ⟨_, rfl⟩
            have c1 : 2 + (b : Int) < (k2 : Int) := by omega
            have c2 : (2 + (b : Int)).toNat = 2 + b := by omega
            have c3 : (0 : Int) < (k2 : Int) := by omega
            have c4 : IntKind.i64.wrap (2 + (b : Int)) = 2 + (b : Int) := by rw [IntKind.wrap_i64]; omega
            have c5 : 0 < k2 := by omega
            have c6 : k2 ≠ 0 := by omega
            have n21r := HE.n21
            rw [hk2] at n21r
            have HQ : Hid (wr.cell? ⟨N, 21, none⟩ = some (.slice (some ⟨Qb, 0, none⟩) k2 k2) ∧ wr.cell? ⟨Qb, 0, none⟩ = some (.int .i64 0) ∧ wr.cell? ⟨Qb, 1, none⟩ = some (.int .i64 7) ∧ wr.cell? ⟨Qb, 2, none⟩ = some (.int .i64 0) ∧ wr.cell? ⟨Qb, (2 + b) * 3, none⟩ = some (.int .i64 p0) ∧ wr.cell? ⟨Qb, (2 + b) * 3 + 1, none⟩ = some (.int .i64 p1) ∧ wr.cell? ⟨Qb, (2 + b) * 3 + 2, none⟩ = some (.int .i64 p2) ∧ wr.cell? ⟨w.heap.size + 1, 0, none⟩ = some (.int .i64 p0) ∧ wr.cell? ⟨w.heap.size + 1, 1, none⟩ = some (.int .i64 p1) ∧ wr.cell? ⟨w.heap.size + 1, 2, none⟩ = some (.int .i64 p2) ∧ wr.cell? ⟨N, 6, none⟩ = some (.slice none 0 0)) := ⟨n21r, HE.q0, HE.q1, HE.q2, HE.pq0, HE.pq1, HE.pq2, cell_keeps hbr y3w, cell_keeps hbr y4w, cell_keeps hbr y5w, HE.n6⟩
            have n6r := HE.n6
            clear HE
            go_upto_region 25 with (fail)
            go_region_held3 (fun w' => w'.cell? ⟨N, 21, none⟩ = some (.slice (some ⟨Qb, 0, none⟩) k2 k2) ∧ w'.cell? ⟨Qb, 0, none⟩ = some (.int .i64 0) ∧ w'.cell? ⟨Qb, 1, none⟩ = some (.int .i64 7) ∧ w'.cell? ⟨Qb, 2, none⟩ = some (.int .i64 0) ∧ w'.cell? ⟨Qb, (2 + b) * 3, none⟩ = some (.int .i64 p0) ∧ w'.cell? ⟨Qb, (2 + b) * 3 + 1, none⟩ = some (.int .i64 p1) ∧ w'.cell? ⟨Qb, (2 + b) * 3 + 2, none⟩ = some (.int .i64 p2) ∧ w'.cell? ⟨w.heap.size + 1, 0, none⟩ = some (.int .i64 p0) ∧ w'.cell? ⟨w.heap.size + 1, 1, none⟩ = some (.int .i64 p1) ∧ w'.cell? ⟨w.heap.size + 1, 2, none⟩ = some (.int .i64 p2) ∧ w'.cell? ⟨N, 6, none⟩ = some (.slice none 0 0))
              (first | with_reducible exact keepc11 HQ.out (Below.refl _ _).drew | with_reducible exact keepc11 HQ.out h3)
              (first | (go_at_call 21; refine (cmk_any _ _ _ _).mono ?_; rintro e w' ⟨rfl, hb⟩; (with_reducible refine tailA hb (fun h3 => ?_))))
            have n6z := cell_keeps h3 n6r
            go_wp2_with fail
            go_ret
            exact ⟨rfl, (hbw.trans (hbr.mono hbw.size)).trans (h3.mono (Nat.le_trans hbw.size hbr.size))⟩
    · go_upto_region 12 with (fail)
      have hbd : Below wm.heap.size wm (wm.alloc (.cells #[.int .i64 (wrap64 (wrap64 (-cc) + 1)), .int .i64 0, .int .i64 0] 28)) := (Below.refl _ _).alloc (Nat.le_refl _) _
      have hC := cells3 (heap_alloc_new wm (.cells #[.int .i64 (wrap64 (wrap64 (-cc) + 1)), .int .i64 0, .int .i64 0] 28))
      generalize hwd : wm.alloc (.cells #[.int .i64 (wrap64 (wrap64 (-cc) + 1)), .int .i64 0, .int .i64 0] 28) = wd at hbd hC ⊢
      have hdec : decide (0 < cc) = false := by simp; omega
      have hrc : rc cc = wrap64 (wrap64 (-cc) + 1) := by simp [rc, hdec]
      have k0 : wd.cell? ⟨wm.heap.size, 0, none⟩ = some (.int .i64 (rc cc)) := by rw [hrc]; exact hC.1
      have k1 := hC.2.1
      have k2 := hC.2.2
      clear hC hwd hrc
      have y0d := cell_keeps hbd y0c
      have y1d := cell_keeps hbd y1c
      have y2d := cell_keeps hbd y2c
      have y3d := cell_keeps hbd y3c
      have y4d := cell_keeps hbd y4c
      have y5d := cell_keeps hbd y5c
      have y6d := cell_keeps hbd y6c
      have y7d := cell_keeps hbd y7c
      have y8d := cell_keeps hbd y8c
      have y9d := cell_keeps hbd y9c
      have y10d := cell_keeps hbd y10c
      have y11d := cell_keeps hbd y11c
      go_upto_if 70 with (go_at_call 21; refine (cmk_any _ _ _ _).mono ?_; rintro e we ⟨rfl, hbe⟩)
      have hef : Below wd.heap.size wd (we.alloc (.cells #[.int .i64 u0, .int .i64 u1, .int .i64 u2] 28)) := hbe.alloc hbe.size _
      have HW := heap_alloc_new we (.cells #[.int .i64 u0, .int .i64 u1, .int .i64 u2] 28)
      generalize hwf : we.alloc (.cells #[.int .i64 u0, .int .i64 u1, .int .i64 u2] 28) = wf at hef HW ⊢
      clear hwf
      have HWH : Hid (wf.heap[we.heap.size]? = some (.cells #[.int .i64 u0, .int .i64 u1, .int .i64 u2] 28 (0, 0))) := HW
      have hcf : Below wm.heap.size wm wf := hbd.trans (hef.mono hbd.size)
      have hWb : wm.heap.size ≤ we.heap.size := Nat.le_trans hbd.size hbe.size
      clear HW
      have y0f := cell_keeps hef y0d
      have y1f := cell_keeps hef y1d
      have y2f := cell_keeps hef y2d
      have y3f := cell_keeps hef y3d
      have y4f := cell_keeps hef y4d
      have y5f := cell_keeps hef y5d
      have y6f := cell_keeps hef y6d
      have y7f := cell_keeps hef y7d
      have y8f := cell_keeps hef y8d
      have y9f := cell_keeps hef y9d
      have y10f := cell_keeps hef y10d
      have y11f := cell_keeps hef y11d
      have k0f := cell_keeps hef k0
      have k1f := cell_keeps hef k1
      have k2f := cell_keeps hef k2
      clear y0d y1d y2d y3d y4d y5d y6d y7d y8d y9d y10d y11d k0 k1 k2
      go_cut [] (fun wq => wq.cell? ⟨we.heap.size, 0, none⟩ = some (.int .i64 (fin (rok cc past) (ltB (atv0 d0 (rc cc) u0 p0) (atv d1 u1 p1) (atv d2 u2 p2) g0 g1 g2) u0 g0 (atv0 d0 (rc cc) u0 p0))) ∧ wq.cell? ⟨we.heap.size, 1, none⟩ = some (.int .i64 (fin (rok cc past) (ltB (atv0 d0 (rc cc) u0 p0) (atv d1 u1 p1) (atv d2 u2 p2) g0 g1 g2) u1 g1 (atv d1 u1 p1))) ∧ wq.cell? ⟨we.heap.size, 2, none⟩ = some (.int .i64 (fin (rok cc past) (ltB (atv0 d0 (rc cc) u0 p0) (atv d1 u1 p1) (atv d2 u2 p2) g0 g1 g2) u2 g2 (atv d2 u2 p2))) ∧ Below wm.heap.size wm wq)
      case first =>
        cases past with
        | false =>
          have hok : rok cc false = false := by simp [rok, hdec]
          go_wp2_with fail
          go_meet
          obtain ⟨r0, r1, r2⟩ := cells3 HWH.out
          rw [hok]
          exact ⟨r0, r1, r2, hcf⟩
        | true =>
          have hok : rok cc true = true := by simp [rok, hdec]
          obtain ⟨lt, hlt⟩ : ∃ lt, ltB (atv0 d0 (rc cc) u0 p0) (atv d1 u1 p1) (atv d2 u2 p2) g0 g1 g2 = lt := ⟨_, rfl⟩
          go_upto_region 15 with (fail)
          have hfg : Below wf.heap.size wf (wf.alloc (.cells #[.int .i64 (wrap64 (wrap64 (wrap64 (d0 + rc cc) + u0) - p0)), .int .i64 (wrap64 (wrap64 (wrap64 d1 + u1) - p1)), .int .i64 (wrap64 (wrap64 (wrap64 d2 + u2) - p2))] 28)) := (Below.refl _ _).alloc (Nat.le_refl _) _
          have hA := cells3 (heap_alloc_new wf (.cells #[.int .i64 (wrap64 (wrap64 (wrap64 (d0 + rc cc) + u0) - p0)), .int .i64 (wrap64 (wrap64 (wrap64 d1 + u1) - p1)), .int .i64 (wrap64 (wrap64 (wrap64 d2 + u2) - p2))] 28))
          generalize hwg : wf.alloc (.cells #[.int .i64 (wrap64 (wrap64 (wrap64 (d0 + rc cc) + u0) - p0)), .int .i64 (wrap64 (wrap64 (wrap64 d1 + u1) - p1)), .int .i64 (wrap64 (wrap64 (wrap64 d2 + u2) - p2))] 28) = wg at hfg hA ⊢
          clear hwg
          have A0 : wg.cell? ⟨wf.heap.size, 0, none⟩ = some (.int .i64 (atv0 d0 (rc cc) u0 p0)) := hA.1
          have A1 : wg.cell? ⟨wf.heap.size, 1, none⟩ = some (.int .i64 (atv d1 u1 p1)) := hA.2.1
          have A2 : wg.cell? ⟨wf.heap.size, 2, none⟩ = some (.int .i64 (atv d2 u2 p2)) := hA.2.2
          clear hA
          have g9 := cell_keeps hfg y9f
          have g10 := cell_keeps hfg y10f
          have g11 := cell_keeps hfg y11f
          go_upto_region 16 with (go_at_call 21; refine (cmk_any _ _ _ _).mono ?_; rintro e wh ⟨rfl, hbh⟩)
          have hgi : Below wg.heap.size wg (wh.alloc (.cells #[.int .i64 g0, .int .i64 g1, .int .i64 g2] 28)) := hbh.alloc hbh.size _
          have hB := cells3 (heap_alloc_new wh (.cells #[.int .i64 g0, .int .i64 g1, .int .i64 g2] 28))
          generalize hwi : wh.alloc (.cells #[.int .i64 g0, .int .i64 g1, .int .i64 g2] 28) = wi at hgi hB ⊢
          clear hwi
          obtain ⟨B0, B1, B2⟩ := hB
          have A0i := cell_keeps hgi A0
          have A1i := cell_keeps hgi A1
          have A2i := cell_keeps hgi A2
          go_upto_if 109 with (go_at_call 22; refine (clt_any _ _ _ _ _ _ _).mono ?_; rintro e wj ⟨rfl, hbj⟩; rw [hlt])
          have hfj : Below wf.heap.size wf wj := (hfg.trans (hgi.mono hfg.size)).trans (hbj.mono (Nat.le_trans hfg.size hgi.size))
          have hcj : Below wm.heap.size wm wj := hcf.trans (hfj.mono hcf.size)
          have HWj : Hid (wj.heap[we.heap.size]? = some (.cells #[.int .i64 u0, .int .i64 u1, .int .i64 u2] 28 (0, 0))) := show _ = _ from (hfj.block _ (lt_of_block HWH.out)).trans HWH.out
          cases lt with
          | false =>
            go_wp2_with fail
            go_meet
            obtain ⟨r0, r1, r2⟩ := cells3 HWj.out
            rw [hok, hlt]
            exact ⟨r0, r1, r2, hcj⟩
          | true =>
            obtain ⟨r0, r1, r2, z0, z1, z2⟩ := res3 HWj.out
            have A0j := cell_keeps hbj A0i
            have A1j := cell_keeps hbj A1i
            have A2j := cell_keeps hbj A2i
            have j0 := cell_keeps hfj y0f
            have j1 := cell_keeps hfj y1f
            have j2 := cell_keeps hfj y2f
            have j9 := cell_keeps hfj y9f
            have j10 := cell_keeps hfj y10f
            have j11 := cell_keeps hfj y11f
            go_wp2_with fail
            go_meet
            obtain ⟨s0, s1, s2⟩ := cells3 (st3 HWj.out (x := .int .i64 (wrap64 (u0 + wrap64 (g0 - atv0 d0 (rc cc) u0 p0)))) (y := .int .i64 (wrap64 (u1 + wrap64 (g1 - atv d1 u1 p1)))) (z := .int .i64 (wrap64 (u2 + wrap64 (g2 - atv d2 u2 p2)))))
            rw [hok, hlt]
            exact ⟨s0, s1, s2, ((hcj.setCell hWb _).setCell hWb _).setCell hWb _⟩
      case rest =>
        generalize (fin (rok cc past) (ltB (atv0 d0 (rc cc) u0 p0) (atv d1 u1 p1) (atv d2 u2 p2) g0 g1 g2) u0 g0 (atv0 d0 (rc cc) u0 p0)) = f0 at HC hcut
        generalize (fin (rok cc past) (ltB (atv0 d0 (rc cc) u0 p0) (atv d1 u1 p1) (atv d2 u2 p2) g0 g1 g2) u1 g1 (atv d1 u1 p1)) = f1 at HC hcut
        generalize (fin (rok cc past) (ltB (atv0 d0 (rc cc) u0 p0) (atv d1 u1 p1) (atv d2 u2 p2) g0 g1 g2) u2 g2 (atv d2 u2 p2)) = f2 at HC hcut
        obtain ⟨m0, m1, m2, hcw⟩ := hcut
        have y3w := cell_keeps hcw y3c
        have y4w := cell_keeps hcw y4c
        have y5w := cell_keeps hcw y5c
        have HD : Hid (CDone wc N Rb Qb k b f0 f1 f2 p0 p1 p2) := HC.out.keep hcw
        have HDn1 := HD.out.n1
        have b0w := HD.out.b0
        have b1w := HD.out.b1
        have b2w := HD.out.b2
        have bi0 : (0 : Int) ≤ (b : Int) := by omega
        have bi1 : (b : Int) < (k : Int) := by omega
        have hbw : Below w.heap.size w wc := hbc.trans (hcw.mono hbc.size)
        go_upto_region 18 with (fail)
        go_region_held3 (fun w' => w'.cell? ⟨N, 1, none⟩ = some (.slice (some ⟨Rb, 0, none⟩) k k) ∧ w'.cell? ⟨Rb, b * 13 + 5, none⟩ = some (.int .i64 f0) ∧ w'.cell? ⟨Rb, b * 13 + 6, none⟩ = some (.int .i64 f1) ∧ w'.cell? ⟨Rb, b * 13 + 7, none⟩ = some (.int .i64 f2) ∧ w'.cell? ⟨we.heap.size, 0, none⟩ = some (.int .i64 f0) ∧ w'.cell? ⟨we.heap.size, 1, none⟩ = some (.int .i64 f1) ∧ w'.cell? ⟨we.heap.size, 2, none⟩ = some (.int .i64 f2))
          (exact ⟨HDn1, b0w, b1w, b2w, m0, m1, m2⟩) (fail)
        clear b0w b1w b2w m0 m1 m2
        go_wp2_with fail
        go_loopw [28] (fun v wr => ∃ j : Nat, j ≤ k ∧ v = .int .i64 j ∧ Below wc.heap.size wc wr) (fun v _ => k - (intOf v).toNat)
        case atStart => exact ⟨0, Nat.zero_le _, rfl, (Below.refl _ _).drew⟩
        case round =>
          obtain ⟨j, hj, rfl, hbr⟩ := hrel
          by_cases hlt : j < k
          · have j0 : (0 : Int) ≤ (j : Int) := by omega
            have j1 : (j : Int) < (k : Int) := by omega
            by_cases hjb : j = b
            · rw [hjb] at hlt j1 ⊢
              go_wp2_with fail
              go_roundw
              case rel => exact ⟨b + 1, by omega, by go_num, hbr⟩
              case measure => simp [intOf]; omega
            · have hne : ((j : Int) == (b : Int)) = false := beq_eq_false_iff_ne.2 (by omega)
              obtain ⟨o0, o1, o2⟩ := (HD.out.keep hbr).oth j hlt hjb
              have n1r := cell_keeps hbr HDn1
              go_wp2_with fail
              go_roundw
              case rel => exact ⟨j + 1, by omega, by go_num, hbr⟩
              case measure => simp [intOf]; omega
          · have hjk : j = k := by omega
            rw [hjk]
            clear hlt hjk
            have HE := HD.out.keep hbr
            have c0 : (0 : Int) ≤ 2 + (b : Int) := by omega
            obtain ⟨k2, hk2⟩ : ∃ k2, k + 2 = k2 := ⟨_, rfl⟩
            have c1 : 2 + (b : Int) < (k2 : Int) := by omega
            have c2 : (2 + (b : Int)).toNat = 2 + b := by omega
            have c3 : (0 : Int) < (k2 : Int) := by omega
            have c4 : IntKind.i64.wrap (2 + (b : Int)) = 2 + (b : Int) := by rw [IntKind.wrap_i64]; omega
            have c5 : 0 < k2 := by omega
            have c6 : k2 ≠ 0 := by omega
            have n21r := HE.n21
            rw [hk2] at n21r
            have HQ : Hid (wr.cell? ⟨N, 21, none⟩ = some (.slice (some ⟨Qb, 0, none⟩) k2 k2) ∧ wr.cell? ⟨Qb, 0, none⟩ = some (.int .i64 0) ∧ wr.cell? ⟨Qb, 1, none⟩ = some (.int .i64 7) ∧ wr.cell? ⟨Qb, 2, none⟩ = some (.int .i64 0) ∧ wr.cell? ⟨Qb, (2 + b) * 3, none⟩ = some (.int .i64 p0) ∧ wr.cell? ⟨Qb, (2 + b) * 3 + 1, none⟩ = some (.int .i64 p1) ∧ wr.cell? ⟨Qb, (2 + b) * 3 + 2, none⟩ = some (.int .i64 p2) ∧ wr.cell? ⟨w.heap.size + 1, 0, none⟩ = some (.int .i64 p0) ∧ wr.cell? ⟨w.heap.size + 1, 1, none⟩ = some (.int .i64 p1) ∧ wr.cell? ⟨w.heap.size + 1, 2, none⟩ = some (.int .i64 p2) ∧ wr.cell? ⟨N, 6, none⟩ = some (.slice none 0 0)) := ⟨n21r, HE.q0, HE.q1, HE.q2, HE.pq0, HE.pq1, HE.pq2, cell_keeps hbr y3w, cell_keeps hbr y4w, cell_keeps hbr y5w, HE.n6⟩
            have n6r := HE.n6
            clear HE
            go_upto_region 25 with (fail)
            go_region_held3 (fun w' => w'.cell? ⟨N, 21, none⟩ = some (.slice (some ⟨Qb, 0, none⟩) k2 k2) ∧ w'.cell? ⟨Qb, 0, none⟩ = some (.int .i64 0) ∧ w'.cell? ⟨Qb, 1, none⟩ = some (.int .i64 7) ∧ w'.cell? ⟨Qb, 2, none⟩ = some (.int .i64 0) ∧ w'.cell? ⟨Qb, (2 + b) * 3, none⟩ = some (.int .i64 p0) ∧ w'.cell? ⟨Qb, (2 + b) * 3 + 1, none⟩ = some (.int .i64 p1) ∧ w'.cell? ⟨Qb, (2 + b) * 3 + 2, none⟩ = some (.int .i64 p2) ∧ w'.cell? ⟨w.heap.size + 1, 0, none⟩ = some (.int .i64 p0) ∧ w'.cell? ⟨w.heap.size + 1, 1, none⟩ = some (.int .i64 p1) ∧ w'.cell? ⟨w.heap.size + 1, 2, none⟩ = some (.int .i64 p2) ∧ w'.cell? ⟨N, 6, none⟩ = some (.slice none 0 0))
              (first | with_reducible exact keepc11 HQ.out (Below.refl _ _).drew | with_reducible exact keepc11 HQ.out h3)
              (first | (go_at_call 21; refine (cmk_any _ _ _ _).mono ?_; rintro e w' ⟨rfl, hb⟩; (with_reducible refine tailA hb (fun h3 => ?_))))
            have n6z := cell_keeps h3 n6r
            go_wp2_with fail
            go_ret
            exact ⟨rfl, (hbw.trans (hbr.mono hbw.size)).trans (h3.mono (Nat.le_trans hbw.size hbr.size))⟩
    · go_upto_region 12 with (fail)
      have hbd : Below wm.heap.size wm (wm.alloc (.cells #[.int .i64 0, .int .i64 0, .int .i64 0] 28)) := (Below.refl _ _).alloc (Nat.le_refl _) _
      have hC := cells3 (heap_alloc_new wm (.cells #[.int .i64 0, .int .i64 0, .int .i64 0] 28))
      generalize hwd : wm.alloc (.cells #[.int .i64 0, .int .i64 0, .int .i64 0] 28) = wd at hbd hC ⊢
      have hrc : rc 1 = 0 := rfl
      have k0 : wd.cell? ⟨wm.heap.size, 0, none⟩ = some (.int .i64 (rc 1)) := by rw [hrc]; exact hC.1
      have k1 := hC.2.1
      have k2 := hC.2.2
      clear hC hwd hrc
      have y0d := cell_keeps hbd y0c
      have y1d := cell_keeps hbd y1c
      have y2d := cell_keeps hbd y2c
      have y3d := cell_keeps hbd y3c
      have y4d := cell_keeps hbd y4c
      have y5d := cell_keeps hbd y5c
      have y6d := cell_keeps hbd y6c
      have y7d := cell_keeps hbd y7c
      have y8d := cell_keeps hbd y8c
      have y9d := cell_keeps hbd y9c
      have y10d := cell_keeps hbd y10c
      have y11d := cell_keeps hbd y11c
      go_upto_if 70 with (go_at_call 21; refine (cmk_any _ _ _ _).mono ?_; rintro e we ⟨rfl, hbe⟩)
      have hef : Below wd.heap.size wd (we.alloc (.cells #[.int .i64 u0, .int .i64 u1, .int .i64 u2] 28)) := hbe.alloc hbe.size _
      have HW := heap_alloc_new we (.cells #[.int .i64 u0, .int .i64 u1, .int .i64 u2] 28)
      generalize hwf : we.alloc (.cells #[.int .i64 u0, .int .i64 u1, .int .i64 u2] 28) = wf at hef HW ⊢
      clear hwf
      have HWH : Hid (wf.heap[we.heap.size]? = some (.cells #[.int .i64 u0, .int .i64 u1, .int .i64 u2] 28 (0, 0))) := HW
      have hcf : Below wm.heap.size wm wf := hbd.trans (hef.mono hbd.size)
      have hWb : wm.heap.size ≤ we.heap.size := Nat.le_trans hbd.size hbe.size
      clear HW
      have y0f := cell_keeps hef y0d
      have y1f := cell_keeps hef y1d
      have y2f := cell_keeps hef y2d
      have y3f := cell_keeps hef y3d
      have y4f := cell_keeps hef y4d
      have y5f := cell_keeps hef y5d
      have y6f := cell_keeps hef y6d
      have y7f := cell_keeps hef y7d
      have y8f := cell_keeps hef y8d
      have y9f := cell_keeps hef y9d
      have y10f := cell_keeps hef y10d
      have y11f := cell_keeps hef y11d
      have k0f := cell_keeps hef k0
      have k1f := cell_keeps hef k1
      have k2f := cell_keeps hef k2
      clear y0d y1d y2d y3d y4d y5d y6d y7d y8d y9d y10d y11d k0 k1 k2
      go_cut [] (fun wq => wq.cell? ⟨we.heap.size, 0, none⟩ = some (.int .i64 (fin (rok 1 past) (ltB (atv0 d0 (rc 1) u0 p0) (atv d1 u1 p1) (atv d2 u2 p2) g0 g1 g2) u0 g0 (atv0 d0 (rc 1) u0 p0))) ∧ wq.cell? ⟨we.heap.size, 1, none⟩ = some (.int .i64 (fin (rok 1 past) (ltB (atv0 d0 (rc 1) u0 p0) (atv d1 u1 p1) (atv d2 u2 p2) g0 g1 g2) u1 g1 (atv d1 u1 p1))) ∧ wq.cell? ⟨we.heap.size, 2, none⟩ = some (.int .i64 (fin (rok 1 past) (ltB (atv0 d0 (rc 1) u0 p0) (atv d1 u1 p1) (atv d2 u2 p2) g0 g1 g2) u2 g2 (atv d2 u2 p2))) ∧ Below wm.heap.size wm wq)
      case first =>
        have hok : rok 1 past = true := rfl
        obtain ⟨lt, hlt⟩ : ∃ lt, ltB (atv0 d0 (rc 1) u0 p0) (atv d1 u1 p1) (atv d2 u2 p2) g0 g1 g2 = lt := ⟨_, rfl⟩
        go_upto_region 15 with (fail)
        have hfg : Below wf.heap.size wf (wf.alloc (.cells #[.int .i64 (wrap64 (wrap64 (wrap64 (d0 + rc 1) + u0) - p0)), .int .i64 (wrap64 (wrap64 (wrap64 d1 + u1) - p1)), .int .i64 (wrap64 (wrap64 (wrap64 d2 + u2) - p2))] 28)) := (Below.refl _ _).alloc (Nat.le_refl _) _
        have hA := cells3 (heap_alloc_new wf (.cells #[.int .i64 (wrap64 (wrap64 (wrap64 (d0 + rc 1) + u0) - p0)), .int .i64 (wrap64 (wrap64 (wrap64 d1 + u1) - p1)), .int .i64 (wrap64 (wrap64 (wrap64 d2 + u2) - p2))] 28))
        generalize hwg : wf.alloc (.cells #[.int .i64 (wrap64 (wrap64 (wrap64 (d0 + rc 1) + u0) - p0)), .int .i64 (wrap64 (wrap64 (wrap64 d1 + u1) - p1)), .int .i64 (wrap64 (wrap64 (wrap64 d2 + u2) - p2))] 28) = wg at hfg hA ⊢
        clear hwg
        have A0 : wg.cell? ⟨wf.heap.size, 0, none⟩ = some (.int .i64 (atv0 d0 (rc 1) u0 p0)) := hA.1
        have A1 : wg.cell? ⟨wf.heap.size, 1, none⟩ = some (.int .i64 (atv d1 u1 p1)) := hA.2.1
        have A2 : wg.cell? ⟨wf.heap.size, 2, none⟩ = some (.int .i64 (atv d2 u2 p2)) := hA.2.2
        clear hA
        have g9 := cell_keeps hfg y9f
        have g10 := cell_keeps hfg y10f
        have g11 := cell_keeps hfg y11f
        go_upto_region 16 with (go_at_call 21; refine (cmk_any _ _ _ _).mono ?_; rintro e wh ⟨rfl, hbh⟩)
        have hgi : Below wg.heap.size wg (wh.alloc (.cells #[.int .i64 g0, .int .i64 g1, .int .i64 g2] 28)) := hbh.alloc hbh.size _
        have hB := cells3 (heap_alloc_new wh (.cells #[.int .i64 g0, .int .i64 g1, .int .i64 g2] 28))
        generalize hwi : wh.alloc (.cells #[.int .i64 g0, .int .i64 g1, .int .i64 g2] 28) = wi at hgi hB ⊢
        clear hwi
        obtain ⟨B0, B1, B2⟩ := hB
        have A0i := cell_keeps hgi A0
        have A1i := cell_keeps hgi A1
        have A2i := cell_keeps hgi A2
        go_upto_if 109 with (go_at_call 22; refine (clt_any _ _ _ _ _ _ _).mono ?_; rintro e wj ⟨rfl, hbj⟩; rw [hlt])
        have hfj : Below wf.heap.size wf wj := (hfg.trans (hgi.mono hfg.size)).trans (hbj.mono (Nat.le_trans hfg.size hgi.size))
        have hcj : Below wm.heap.size wm wj := hcf.trans (hfj.mono hcf.size)
        have HWj : Hid (wj.heap[we.heap.size]? = some (.cells #[.int .i64 u0, .int .i64 u1, .int .i64 u2] 28 (0, 0))) := show _ = _ from (hfj.block _ (lt_of_block HWH.out)).trans HWH.out
        cases lt with
        | false =>
          go_wp2_with fail
          go_meet
          obtain ⟨r0, r1, r2⟩ := cells3 HWj.out
          rw [hok, hlt]
          exact ⟨r0, r1, r2, hcj⟩
        | true =>
          obtain ⟨r0, r1, r2, z0, z1, z2⟩ := res3 HWj.out
          have A0j := cell_keeps hbj A0i
          have A1j := cell_keeps hbj A1i
          have A2j := cell_keeps hbj A2i
          have j0 := cell_keeps hfj y0f
          have j1 := cell_keeps hfj y1f
          have j2 := cell_keeps hfj y2f
          have j9 := cell_keeps hfj y9f
          have j10 := cell_keeps hfj y10f
          have j11 := cell_keeps hfj y11f
          go_wp2_with fail
          go_meet
          obtain ⟨s0, s1, s2⟩ := cells3 (st3 HWj.out (x := .int .i64 (wrap64 (u0 + wrap64 (g0 - atv0 d0 (rc 1) u0 p0)))) (y := .int .i64 (wrap64 (u1 + wrap64 (g1 - atv d1 u1 p1)))) (z := .int .i64 (wrap64 (u2 + wrap64 (g2 - atv d2 u2 p2)))))
          rw [hok, hlt]
          exact ⟨s0, s1, s2, ((hcj.setCell hWb _).setCell hWb _).setCell hWb _⟩
      case rest =>
        generalize (fin (rok 1 past) (ltB (atv0 d0 (rc 1) u0 p0) (atv d1 u1 p1) (atv d2 u2 p2) g0 g1 g2) u0 g0 (atv0 d0 (rc 1) u0 p0)) = f0 at HC hcut
        generalize (fin (rok 1 past) (ltB (atv0 d0 (rc 1) u0 p0) (atv d1 u1 p1) (atv d2 u2 p2) g0 g1 g2) u1 g1 (atv d1 u1 p1)) = f1 at HC hcut
        generalize (fin (rok 1 past) (ltB (atv0 d0 (rc 1) u0 p0) (atv d1 u1 p1) (atv d2 u2 p2) g0 g1 g2) u2 g2 (atv d2 u2 p2)) = f2 at HC hcut
        obtain ⟨m0, m1, m2, hcw⟩ := hcut
        have y3w := cell_keeps hcw y3c
        have y4w := cell_keeps hcw y4c
        have y5w := cell_keeps hcw y5c
        have HD : Hid (CDone wc N Rb Qb k b f0 f1 f2 p0 p1 p2) := HC.out.keep hcw
        have HDn1 := HD.out.n1
        have b0w := HD.out.b0
        have b1w := HD.out.b1
        have b2w := HD.out.b2
        have bi0 : (0 : Int) ≤ (b : Int) := by omega
        have bi1 : (b : Int) < (k : Int) := by omega
        have hbw : Below w.heap.size w wc := hbc.trans (hcw.mono hbc.size)
        go_upto_region 18 with (fail)
        go_region_held3 (fun w' => w'.cell? ⟨N, 1, none⟩ = some (.slice (some ⟨Rb, 0, none⟩) k k) ∧ w'.cell? ⟨Rb, b * 13 + 5, none⟩ = some (.int .i64 f0) ∧ w'.cell? ⟨Rb, b * 13 + 6, none⟩ = some (.int .i64 f1) ∧ w'.cell? ⟨Rb, b * 13 + 7, none⟩ = some (.int .i64 f2) ∧ w'.cell? ⟨we.heap.size, 0, none⟩ = some (.int .i64 f0) ∧ w'.cell? ⟨we.heap.size, 1, none⟩ = some (.int .i64 f1) ∧ w'.cell? ⟨we.heap.size, 2, none⟩ = some (.int .i64 f2))
          (exact ⟨HDn1, b0w, b1w, b2w, m0, m1, m2⟩) (fail)
        clear b0w b1w b2w m0 m1 m2
        go_wp2_with fail
        go_loopw [28] (fun v wr => ∃ j : Nat, j ≤ k ∧ v = .int .i64 j ∧ Below wc.heap.size wc wr) (fun v _ => k - (intOf v).toNat)
        case atStart => exact ⟨0, Nat.zero_le _, rfl, (Below.refl _ _).drew⟩
        case round =>
          obtain ⟨j, hj, rfl, hbr⟩ := hrel
          by_cases hlt : j < k
          · have j0 : (0 : Int) ≤ (j : Int) := by omega
            have j1 : (j : Int) < (k : Int) := by omega
            by_cases hjb : j = b
            · rw [hjb] at hlt j1 ⊢
              go_wp2_with fail
              go_roundw
              case rel => exact ⟨b + 1, by omega, by go_num, hbr⟩
              case measure => simp [intOf]; omega
            · have hne : ((j : Int) == (b : Int)) = false := beq_eq_false_iff_ne.2 (by omega)
              obtain ⟨o0, o1, o2⟩ := (HD.out.keep hbr).oth j hlt hjb
              have n1r := cell_keeps hbr HDn1
              go_wp2_with fail
              go_roundw
              case rel => exact ⟨j + 1, by omega, by go_num, hbr⟩
              case measure => simp [intOf]; omega
          · have hjk : j = k := by omega
            rw [hjk]
            clear hlt hjk
            have HE := HD.out.keep hbr
            have c0 : (0 : Int) ≤ 2 + (b : Int) := by omega
            obtain ⟨k2, hk2⟩ : ∃ k2, k + 2 = k2 := ⟨_, rfl⟩
            have c1 : 2 + (b : Int) < (k2 : Int) := by omega
            have c2 : (2 + (b : Int)).toNat = 2 + b := by omega
            have c3 : (0 : Int) < (k2 : Int) := by omega
            have c4 : IntKind.i64.wrap (2 + (b : Int)) = 2 + (b : Int) := by rw [IntKind.wrap_i64]; omega
            have c5 : 0 < k2 := by omega
            have c6 : k2 ≠ 0 := by omega
            have n21r := HE.n21
            rw [hk2] at n21r
            have HQ : Hid (wr.cell? ⟨N, 21, none⟩ = some (.slice (some ⟨Qb, 0, none⟩) k2 k2) ∧ wr.cell? ⟨Qb, 0, none⟩ = some (.int .i64 0) ∧ wr.cell? ⟨Qb, 1, none⟩ = some (.int .i64 7) ∧ wr.cell? ⟨Qb, 2, none⟩ = some (.int .i64 0) ∧ wr.cell? ⟨Qb, (2 + b) * 3, none⟩ = some (.int .i64 p0) ∧ wr.cell? ⟨Qb, (2 + b) * 3 + 1, none⟩ = some (.int .i64 p1) ∧ wr.cell? ⟨Qb, (2 + b) * 3 + 2, none⟩ = some (.int .i64 p2) ∧ wr.cell? ⟨w.heap.size + 1, 0, none⟩ = some (.int .i64 p0) ∧ wr.cell? ⟨w.heap.size + 1, 1, none⟩ = some (.int .i64 p1) ∧ wr.cell? ⟨w.heap.size + 1, 2, none⟩ = some (.int .i64 p2) ∧ wr.cell? ⟨N, 6, none⟩ = some (.slice none 0 0)) := ⟨n21r, HE.q0, HE.q1, HE.q2, HE.pq0, HE.pq1, HE.pq2, cell_keeps hbr y3w, cell_keeps hbr y4w, cell_keeps hbr y5w, HE.n6⟩
            have n6r := HE.n6
            clear HE
            go_upto_region 25 with (fail)
            go_region_held3 (fun w' => w'.cell? ⟨N, 21, none⟩ = some (.slice (some ⟨Qb, 0, none⟩) k2 k2) ∧ w'.cell? ⟨Qb, 0, none⟩ = some (.int .i64 0) ∧ w'.cell? ⟨Qb, 1, none⟩ = some (.int .i64 7) ∧ w'.cell? ⟨Qb, 2, none⟩ = some (.int .i64 0) ∧ w'.cell? ⟨Qb, (2 + b) * 3, none⟩ = some (.int .i64 p0) ∧ w'.cell? ⟨Qb, (2 + b) * 3 + 1, none⟩ = some (.int .i64 p1) ∧ w'.cell? ⟨Qb, (2 + b) * 3 + 2, none⟩ = some (.int .i64 p2) ∧ w'.cell? ⟨w.heap.size + 1, 0, none⟩ = some (.int .i64 p0) ∧ w'.cell? ⟨w.heap.size + 1, 1, none⟩ = some (.int .i64 p1) ∧ w'.cell? ⟨w.heap.size + 1, 2, none⟩ = some (.int .i64 p2) ∧ w'.cell? ⟨N, 6, none⟩ = some (.slice none 0 0))
              (first | with_reducible exact keepc11 HQ.out (Below.refl _ _).drew | with_reducible exact keepc11 HQ.out h3)
              (first | (go_at_call 21; refine (cmk_any _ _ _ _).mono ?_; rintro e w' ⟨rfl, hb⟩; (with_reducible refine tailA hb (fun h3 => ?_))))
            have n6z := cell_keeps h3 n6r
            go_wp2_with fail
            go_ret
            exact ⟨rfl, (hbw.trans (hbr.mono hbw.size)).trans (h3.mono (Nat.le_trans hbw.size hbr.size))⟩

end Go.Proofs.Ybulkkru.cst

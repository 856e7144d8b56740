import Derived.Test.YbulkkruT68
import Derived.Test.YbulkkruNetC
namespace Go.Proofs.Ybulkkru.cst
open Go.RowKit Go.Proofs Go.Proofs.Ybulkkru.net
set_option linter.unusedVariables false

theorem blB {w w' : World} {B A i : Nat} {v : Value} (h : Below B w w') (hA : B ≤ A) : Below B w (w'.setCell ⟨A, i, none⟩ v) := h.setCell hA v
/-- The two runs as they are made. -/
structure RunsAt (w : World) (R : Nat) : Prop where
  run : ∀ k : Nat, k < 2 → RunAt w R (k * 6) 1 (1 + (k : Int)) 0 0 0 0
  free : ∀ x, w.frozen? ⟨R, x, none⟩ = false
theorem runs_made (w : World) : Below w.heap.size w (w.alloc (.cells #[.int .u8 1, .int .i32 1, .int .i32 0, .int .i32 0, .int .i32 0, .int .i32 0, .int .u8 1, .int .i32 2, .int .i32 0, .int .i32 0, .int .i32 0, .int .i32 0] 80)) ∧ RunsAt (w.alloc (.cells #[.int .u8 1, .int .i32 1, .int .i32 0, .int .i32 0, .int .i32 0, .int .i32 0, .int .u8 1, .int .i32 2, .int .i32 0, .int .i32 0, .int .i32 0, .int .i32 0] 80)) w.heap.size := by
  have h : (w.alloc (.cells #[.int .u8 1, .int .i32 1, .int .i32 0, .int .i32 0, .int .i32 0, .int .i32 0, .int .u8 1, .int .i32 2, .int .i32 0, .int .i32 0, .int .i32 0, .int .i32 0] 80)).heap[w.heap.size]? = some (.cells #[.int .u8 1, .int .i32 1, .int .i32 0, .int .i32 0, .int .i32 0, .int .i32 0, .int .u8 1, .int .i32 2, .int .i32 0, .int .i32 0, .int .i32 0, .int .i32 0] 80 (0, 0)) := heap_alloc_new _ _
  refine ⟨(Below.refl w.heap.size w).alloc (Nat.le_refl _) _, fun k hk => ?_, fun x => freeAt h⟩
  have h2 : k = 0 ∨ k = 1 := by omega
  rcases h2 with rfl | rfl
  · exact ⟨cellAt h rfl, cellAt h rfl, cellAt h rfl, cellAt h rfl, cellAt h rfl, cellAt h rfl⟩
  · exact ⟨cellAt h rfl, cellAt h rfl, cellAt h rfl, cellAt h rfl, cellAt h rfl, cellAt h rfl⟩
theorem runs_set {w : World} {R k : Nat} (h : RunsAt w R) (hk : k < 2) : RunAt ((((((w.setCell ⟨R, k * 6, none⟩ (.int .u8 2)).setCell ⟨R, k * 6 + 1, none⟩ (.int .i32 7)).setCell ⟨R, k * 6 + 2, none⟩ (.int .i32 0)).setCell ⟨R, k * 6 + 3, none⟩ (.int .i32 0)).setCell ⟨R, k * 6 + 4, none⟩ (.int .i32 0)).setCell ⟨R, k * 6 + 5, none⟩ (.int .i32 0)) R (k * 6) 2 7 0 0 0 0 ∧ (∀ j : Nat, j < 2 → j ≠ k → RunAt ((((((w.setCell ⟨R, k * 6, none⟩ (.int .u8 2)).setCell ⟨R, k * 6 + 1, none⟩ (.int .i32 7)).setCell ⟨R, k * 6 + 2, none⟩ (.int .i32 0)).setCell ⟨R, k * 6 + 3, none⟩ (.int .i32 0)).setCell ⟨R, k * 6 + 4, none⟩ (.int .i32 0)).setCell ⟨R, k * 6 + 5, none⟩ (.int .i32 0)) R (j * 6) 1 (1 + (j : Int)) 0 0 0 0) ∧ (∀ x, ((((((w.setCell ⟨R, k * 6, none⟩ (.int .u8 2)).setCell ⟨R, k * 6 + 1, none⟩ (.int .i32 7)).setCell ⟨R, k * 6 + 2, none⟩ (.int .i32 0)).setCell ⟨R, k * 6 + 3, none⟩ (.int .i32 0)).setCell ⟨R, k * 6 + 4, none⟩ (.int .i32 0)).setCell ⟨R, k * 6 + 5, none⟩ (.int .i32 0)).frozen? ⟨R, x, none⟩ = false) ∧ Below R w ((((((w.setCell ⟨R, k * 6, none⟩ (.int .u8 2)).setCell ⟨R, k * 6 + 1, none⟩ (.int .i32 7)).setCell ⟨R, k * 6 + 2, none⟩ (.int .i32 0)).setCell ⟨R, k * 6 + 3, none⟩ (.int .i32 0)).setCell ⟨R, k * 6 + 4, none⟩ (.int .i32 0)).setCell ⟨R, k * 6 + 5, none⟩ (.int .i32 0)) := by
  have hr := h.run k hk
  refine ⟨⟨by rw [cell_set_ne (by omega), cell_set_ne (by omega), cell_set_ne (by omega), cell_set_ne (by omega), cell_set_ne (by omega)]; exact World.cell?_setCell_same _ _ _ (by rw [hr.c0]), by rw [cell_set_ne (by omega), cell_set_ne (by omega), cell_set_ne (by omega), cell_set_ne (by omega)]; exact World.cell?_setCell_same _ _ _ (by rw [cell_set_ne (by omega), hr.c1]), by rw [cell_set_ne (by omega), cell_set_ne (by omega), cell_set_ne (by omega)]; exact World.cell?_setCell_same _ _ _ (by rw [cell_set_ne (by omega), cell_set_ne (by omega), hr.c2]), by rw [cell_set_ne (by omega), cell_set_ne (by omega)]; exact World.cell?_setCell_same _ _ _ (by rw [cell_set_ne (by omega), cell_set_ne (by omega), cell_set_ne (by omega), hr.c3]), by rw [cell_set_ne (by omega)]; exact World.cell?_setCell_same _ _ _ (by rw [cell_set_ne (by omega), cell_set_ne (by omega), cell_set_ne (by omega), cell_set_ne (by omega), hr.c4]), by exact World.cell?_setCell_same _ _ _ (by rw [cell_set_ne (by omega), cell_set_ne (by omega), cell_set_ne (by omega), cell_set_ne (by omega), cell_set_ne (by omega), hr.c5])⟩, fun j hj hne => ?_, fun x => ?_, ?_⟩
  · have h' := h.run j hj
    exact ⟨by rw [cell_set_ne (by omega), cell_set_ne (by omega), cell_set_ne (by omega), cell_set_ne (by omega), cell_set_ne (by omega), cell_set_ne (by omega)]; exact h'.c0, by rw [cell_set_ne (by omega), cell_set_ne (by omega), cell_set_ne (by omega), cell_set_ne (by omega), cell_set_ne (by omega), cell_set_ne (by omega)]; exact h'.c1, by rw [cell_set_ne (by omega), cell_set_ne (by omega), cell_set_ne (by omega), cell_set_ne (by omega), cell_set_ne (by omega), cell_set_ne (by omega)]; exact h'.c2, by rw [cell_set_ne (by omega), cell_set_ne (by omega), cell_set_ne (by omega), cell_set_ne (by omega), cell_set_ne (by omega), cell_set_ne (by omega)]; exact h'.c3, by rw [cell_set_ne (by omega), cell_set_ne (by omega), cell_set_ne (by omega), cell_set_ne (by omega), cell_set_ne (by omega), cell_set_ne (by omega)]; exact h'.c4, by rw [cell_set_ne (by omega), cell_set_ne (by omega), cell_set_ne (by omega), cell_set_ne (by omega), cell_set_ne (by omega), cell_set_ne (by omega)]; exact h'.c5⟩
  · rw [World.frozen?_setCell, World.frozen?_setCell, World.frozen?_setCell, World.frozen?_setCell, World.frozen?_setCell, World.frozen?_setCell]
    exact h.free x
  · exact blB (blB (blB (blB (blB (blB (Below.refl R w) (Nat.le_refl _)) (Nat.le_refl _)) (Nat.le_refl _)) (Nat.le_refl _)) (Nat.le_refl _)) (Nat.le_refl _)

/-- Two blocks made one behind the other. -/
structure TwoB (w w' : World) (A B : Array Value) (s t : TypeId) : Prop where
  below : Below w.heap.size w w'
  size : w'.heap.size = w.heap.size + 2
  fst : w'.heap[w.heap.size]? = some (.cells A s (0, 0))
  snd : w'.heap[w.heap.size + 1]? = some (.cells B t (0, 0))
theorem two_tail {P : Program} {c : Code} {Q' : Exit → Act → World → Prop} {a : Act} {w : World} {A B : Array Value} {s t : TypeId} (h : ∀ w', TwoB w w' A B s t → Code.wp P c Q' a w') : Code.wp P c Q' a ((w.alloc (.cells A s)).alloc (.cells B t)) := by
  refine h _ ⟨((Below.refl _ _).alloc (Nat.le_refl _) _).alloc (by simp) _, by simp, (Below.heap_alloc _ _ _ (by simp)).trans (heap_alloc_new _ _), ?_⟩
  have := heap_alloc_new (w.alloc (.cells A s)) (.cells B t)
  simpa using this
structure One (w w' : World) (A : Array Value) (s : TypeId) : Prop where
  below : Below w.heap.size w w'
  size : w'.heap.size = w.heap.size + 1
  fst : w'.heap[w.heap.size]? = some (.cells A s (0, 0))
theorem one_tail {P : Program} {c : Code} {Q' : Exit → Act → World → Prop} {a : Act} {w : World} {A : Array Value} {s : TypeId} (h : ∀ w', One w w' A s → Code.wp P c Q' a w') : Code.wp P c Q' a (w.alloc (.cells A s)) :=
  h _ ⟨(Below.refl _ _).alloc (Nat.le_refl _) _, by simp, heap_alloc_new _ _⟩

theorem own_slice' {w : World} {B e sz n : Nat} {v : Value} {xs : List Value} (h : w.ownsRow B e sz v n xs) : ∃ tp cap, v = .slice tp n cap ∧ True := by
  obtain ⟨_, ⟨rfl, rfl⟩ | ⟨g, cap, cur, rfl, hb, hg, _⟩⟩ := h
  · exact ⟨none, 0, rfl, trivial⟩
  · exact ⟨some ⟨g, 0, none⟩, cap, rfl, trivial⟩
theorem want_dist {topic pin a0 a1 a2 g0 g1 g2 rn dp : Int} {np : Nat → Nat} {orig cur : List Int} {ths : List Th} (h : ∀ t ∈ ths, ∀ u ∈ ths, t.b = u.b → t = u) : ∀ x ∈ wantL topic pin a0 a1 a2 g0 g1 g2 rn dp np orig cur ths, ∀ y ∈ wantL topic pin a0 a1 a2 g0 g1 g2 rn dp np orig cur ths, x.b = y.b → x = y := by
  intro x hx y hy e
  obtain ⟨t, ht, rfl⟩ := List.mem_map.1 hx
  obtain ⟨u, hu, rfl⟩ := List.mem_map.1 hy
  have : t.b = u.b := Int.ofNat.inj e
  rw [h t (List.mem_filter.1 ht).1 u (List.mem_filter.1 hu).1 this]
set_option maxHeartbeats 8000000 in
set_option maxRecDepth 100000 in
theorem tail38 (topic pin at0 at1 at2 depth g0 g1 g2 : Int) (N Pt Tb Bk Np mb nB At Gb P Lb B8 ks ocap ccap tcap vcc ucc : Nat) (oo co tp vo uo : Option Addr) (orig cur : List Int) (ths : List Th) (np : Nat → Nat) (w0 w10 : World) (a : Act) (hsz : a.tmps.size = 474) (hd : a.defers = [])
    (h0 : a.tmps.getD 0 undef = .int .i32 topic) (h1 : a.tmps.getD 1 undef = .int .i32 pin) (h2 : a.tmps.getD 2 undef = .slice oo orig.length ocap) (h3 : a.tmps.getD 3 undef = .slice co cur.length ccap) (h9 : a.tmps.getD 9 undef = .int .i32 depth) (h11 : a.tmps.getD 11 undef = .int .u8 ks) (h27 : a.tmps.getD 27 undef = .slice (some ⟨Np, 0, none⟩) nB nB) (h32 : a.tmps.getD 32 undef = .slice tp ths.length tcap) (h37 : a.tmps.getD 37 undef = .pointer (some ⟨N, 0, none⟩)) (h38 : a.tmps.getD 38 undef = .pointer (some ⟨At, 0, none⟩)) (h39 : a.tmps.getD 39 undef = .pointer (some ⟨Gb, 0, none⟩)) (h40 : a.tmps.getD 40 undef = .int .i64 P) (h41 : a.tmps.getD 41 undef = .slice (some ⟨Lb, 0, none⟩) P P)
    (hks : ks < 256) (hP3 : P ≤ 3) (hN : NetC w10 N Pt Tb Bk Np mb nB tp tcap ths topic pin vo uo vcc ucc orig cur np) (ro : RowI w10 oo orig) (rc : RowI w10 co cur)
    (x0 : w10.cell? ⟨At, 0, none⟩ = some (.int .i64 at0)) (x1 : w10.cell? ⟨At, 1, none⟩ = some (.int .i64 at1)) (x2 : w10.cell? ⟨At, 2, none⟩ = some (.int .i64 at2)) (y0 : w10.cell? ⟨Gb, 0, none⟩ = some (.int .u8 g0)) (y1 : w10.cell? ⟨Gb, 1, none⟩ = some (.int .i32 g1)) (y2 : w10.cell? ⟨Gb, 2, none⟩ = some (.int .i32 g2))
    (hO : w10.ownsRow B8 77 13 (.slice (some ⟨Lb, 0, none⟩) P P) P ((preL P).flatMap encQ)) (hB : Below w0.heap.size w0 w10) :
    Code.wp Yba.prog C38 (LawPost w0) a w10 := by
  obtain ⟨t, df⟩ := a
  simp only at hsz hd h0 h1 h2 h3 h9 h11 h27 h32 h37 h38 h39 h40 h41
  subst hd
  obtain ⟨f, hf, rfl⟩ := lit474 t hsz
  rw [hf] at h0 h1 h2 h3 h9 h11 h27 h32 h37 h38 h39 h40 h41
  have HN : Hid (NetC w10 N Pt Tb Bk Np mb nB tp tcap ths topic pin vo uo vcc ucc orig cur np) := hN
  have RO : Hid (RowI w10 oo orig) := ro
  have RC : Hid (RowI w10 co cur) := rc
  have HA : Hid (w10.cell? ⟨At, 0, none⟩ = some (.int .i64 at0) ∧ w10.cell? ⟨At, 1, none⟩ = some (.int .i64 at1) ∧ w10.cell? ⟨At, 2, none⟩ = some (.int .i64 at2)) := ⟨x0, x1, x2⟩
  have HG : Hid (w10.cell? ⟨Gb, 0, none⟩ = some (.int .u8 g0) ∧ w10.cell? ⟨Gb, 1, none⟩ = some (.int .i32 g1) ∧ w10.cell? ⟨Gb, 2, none⟩ = some (.int .i32 g2)) := ⟨y0, y1, y2⟩
  have HO : Hid (w10.ownsRow B8 77 13 (.slice (some ⟨Lb, 0, none⟩) P P) P ((preL P).flatMap encQ)) := hO
  have HB0 : Hid (Below w0.heap.size w0 w10) := hB
  clear hf hsz hN ro rc x0 x1 x2 y0 y1 y2 hO hB
  rw [h0, h1, h2, h3, h9, h11, h27, h32, h37, h38, h39, h40, h41]
  show Code.wp Yba.prog C38 (bodyPost Yba.prog Yba.f3 fun e w' => e = .returned (.bool true) ∧ Below w0.heap.size w0 w') _ w10
  conv => arg 2; whnf
  obtain ⟨k, hk⟩ : ∃ k : Nat, ks % 2 = k := ⟨_, rfl⟩
  have hk2 : k < 2 := by omega
  have hkI : (ks : Int) % 2 = (k : Int) := by omega
  have hkT : (ks : Int).tmod 2 = (k : Int) := by rw [Int.tmod_eq_emod_of_nonneg (by omega)]; exact hkI
  have hkw : IntKind.i32.wrap (k : Int) = k := by rw [IntKind.wrap_i32]; omega
  go_upto_region 40 with (fail)
  obtain ⟨hr1, hr2⟩ := runs_made w10
  generalize w10.alloc (.cells #[.int .u8 1, .int .i32 1, .int .i32 0, .int .i32 0, .int .i32 0, .int .i32 0, .int .u8 1, .int .i32 2, .int .i32 0, .int .i32 0, .int .i32 0, .int .i32 0] 80) = w11 at hr1 hr2 ⊢
  obtain ⟨R, hR⟩ : ∃ R, w10.heap.size = R := ⟨_, rfl⟩
  rw [hR] at hr2
  rw [hR]
  have HB1011 : Hid (Below w10.heap.size w10 w11) := hr1
  have HR11 : Hid (RunsAt w11 R) := hr2
  obtain ⟨c0, c1, c2, c3, c4, c5⟩ := HR11.out.run k hk2
  have z := HR11.out.free
  have z0 := z (k * 6)
  have z1 := z (k * 6 + 1)
  have z2 := z (k * 6 + 2)
  have z3 := z (k * 6 + 3)
  have z4 := z (k * 6 + 4)
  have z5 := z (k * 6 + 5)
  have k0' : (0 : Int) ≤ (k : Int) := by omega
  have k1' : (k : Int) < 2 := by omega
  clear hr1 hr2 z
  go_upto_region 41 with (fail)
  obtain ⟨ra, rb, rf, hbR⟩ := runs_set HR11.out hk2
  generalize ((((((w11.setCell ⟨R, k * 6, none⟩ (.int .u8 2)).setCell ⟨R, k * 6 + 1, none⟩ (.int .i32 7)).setCell ⟨R, k * 6 + 2, none⟩ (.int .i32 0)).setCell ⟨R, k * 6 + 3, none⟩ (.int .i32 0)).setCell ⟨R, k * 6 + 4, none⟩ (.int .i32 0)).setCell ⟨R, k * 6 + 5, none⟩ (.int .i32 0)) = w12 at ra rb rf hbR ⊢
  obtain ⟨kk, hkk⟩ : ∃ kk : Nat, 1 - k = kk := ⟨_, rfl⟩
  have hkk2 : kk < 2 := by omega
  have HRa : Hid (RunAt w12 R (k * 6) 2 7 0 0 0 0) := ra
  have HRo : Hid (RunAt w12 R (kk * 6) 1 (1 + (kk : Int)) 0 0 0 0) := rb kk hkk2 (by omega)
  have HRf : Hid (∀ x, w12.frozen? ⟨R, x, none⟩ = false) := rf
  have HB1112 : Hid (Below R w11 w12) := hbR
  clear ra rb rf hbR c0 c1 c2 c3 c4 c5 z0 z1 z2 z3 z4 z5
  obtain ⟨o0, o1, o2, o3, o4, o5⟩ := HRo.out
  have kkI : (1 : Int) - (k : Int) = (kk : Int) := by omega
  have kkw : IntKind.i32.wrap (kk : Int) = kk := by rw [IntKind.wrap_i32]; omega
  have kk0 : (0 : Int) ≤ (kk : Int) := by omega
  have kk1 : (kk : Int) < 2 := by omega
  go_upto_region 42 with (fail)
  obtain ⟨ho1, ho2⟩ := oneAlloc w12 #[.int .u8 1, .int .i32 (1 + (kk : Int)), .int .i32 0, .int .i32 0, .int .i32 0, .int .i32 0] 80
  generalize w12.alloc (.cells #[.int .u8 1, .int .i32 (1 + (kk : Int)), .int .i32 0, .int .i32 0, .int .i32 0, .int .i32 0] 80) = w13 at ho1 ho2 ⊢
  obtain ⟨Ob, hOb⟩ : ∃ Ob, w12.heap.size = Ob := ⟨_, rfl⟩
  rw [hOb] at ho2
  rw [hOb]
  have HB1213 : Hid (Below w12.heap.size w12 w13) := ho1
  have HOb : Hid (w13.heap[Ob]? = some (.cells #[.int .u8 1, .int .i32 (1 + (kk : Int)), .int .i32 0, .int .i32 0, .int .i32 0, .int .i32 0] 80 (0, 0))) := ho2
  clear ho1 ho2 o0 o1 o2 o3 o4 o5

  have HB1013 : Hid (Below w10.heap.size w10 w13) := by
    have b1 : Below w10.heap.size w10 w12 := HB1011.out.trans (by rw [hR]; exact HB1112.out)
    exact b1.trans (HB1213.out.mono b1.size)
  have x0 := cell_keeps HB1013.out HA.out.1
  have x1 := cell_keeps HB1013.out HA.out.2.1
  have x2 := cell_keeps HB1013.out HA.out.2.2
  have hbm := (Below.refl w13.heap.size w13).alloc (Nat.le_refl _) (.cells #[.int .i32 0, .int .i32 0, .int .i64 at0, .int .i64 at1, .int .i64 at2, .int .i32 0, .int .i32 0] 83)
  have y0 := cell_keeps hbm (cell_keeps HB1013.out HG.out.1)
  have y1 := cell_keeps hbm (cell_keeps HB1013.out HG.out.2.1)
  have y2 := cell_keeps hbm (cell_keeps HB1013.out HG.out.2.2)
  clear hbm
  go_upto_region 43 with (fail)
  clear x0 x1 x2 y0 y1 y2
  refine two_tail ?_
  intro w14 h14
  obtain ⟨M, hM⟩ : ∃ M, w13.heap.size = M := ⟨_, rfl⟩
  obtain ⟨S, hS⟩ : ∃ S, M + 1 = S := ⟨_, rfl⟩
  have HB1314 : Hid (Below w13.heap.size w13 w14) := h14.below
  have h14z : w14.heap.size = S + 1 := by rw [h14.size, hM, ← hS]
  have h14f := h14.fst
  have h14s := h14.snd
  rw [hM] at h14f h14s
  rw [hS] at h14s
  rw [hM, hS]
  have HS14 : Hid (SAt w14 S R M (.slice (some ⟨Lb, 0, none⟩) P P) (.slice none 0 0) g0 g1 g2 3) := ⟨cellAt h14s rfl, cellAt h14s rfl, cellAt h14s rfl, cellAt h14s rfl, cellAt h14s rfl, cellAt h14s rfl, cellAt h14s rfl, cellAt h14s rfl, cellAt h14s rfl, fun x => freeAt h14s⟩
  have HM14 : Hid (w14.heap[M]? = some (.cells #[.int .i32 0, .int .i32 0, .int .i64 at0, .int .i64 at1, .int .i64 at2, .int .i32 0, .int .i32 0] 83 (0, 0))) := h14f
  clear h14f h14s h14
  have HZ14 : Hid (w14.heap.size = S + 1) := h14z
  clear h14z
  have hk1 : IntKind.i32.wrap ((k : Int) + 1) = (k : Int) + 1 := by rw [IntKind.wrap_i32]; omega
  go_upto_region 44 with (fail)
  refine one_tail ?_
  intro w15 h15
  obtain ⟨I, hI⟩ : ∃ I, w14.heap.size = I := ⟨_, rfl⟩
  have h15f := h15.fst
  rw [hI] at h15f
  rw [hI]
  have u0 : w15.cell? ⟨I, 0, none⟩ = some (.int .u8 3) := cellAt h15f rfl
  have u1 : w15.cell? ⟨I, 1, none⟩ = some (.int .i32 topic) := cellAt h15f rfl
  have u2 : w15.cell? ⟨I, 2, none⟩ = some (.int .i32 (-1)) := cellAt h15f rfl
  have u3 : w15.cell? ⟨I, 3, none⟩ = some (.int .i32 0) := cellAt h15f rfl
  have u4 : w15.cell? ⟨I, 4, none⟩ = some (.int .i64 0) := cellAt h15f rfl
  have u5 : w15.cell? ⟨I, 5, none⟩ = some (.int .i64 0) := cellAt h15f rfl
  have u6 : w15.cell? ⟨I, 6, none⟩ = some (.int .i64 0) := cellAt h15f rfl
  have u7 : w15.cell? ⟨I, 7, none⟩ = some (.int .i32 ((k : Int) + 1)) := cellAt h15f rfl
  have u8 : w15.cell? ⟨I, 8, none⟩ = some (.int .i32 depth) := cellAt h15f rfl
  have u9 : w15.cell? ⟨I, 9, none⟩ = some (.int .i32 0) := cellAt h15f rfl
  have u10 : w15.cell? ⟨I, 10, none⟩ = some (.int .i32 0) := cellAt h15f rfl
  have u11 : w15.cell? ⟨I, 11, none⟩ = some (.bool true) := cellAt h15f rfl
  have u12 : w15.cell? ⟨I, 12, none⟩ = some (.int .i8 0) := cellAt h15f rfl
  clear h15f
  have HB1415 : Hid (Below w14.heap.size w14 w15) := h15.below
  have HRlt : Hid (R < w12.heap.size) := HRa.out.lt
  have HOlt : Hid (Ob < w13.heap.size) := lt_of_block HOb.out
  have HSlt : Hid (S < w14.heap.size) := show S < w14.heap.size by have := HZ14.out; omega
  have HB1315 : Hid (Below w13.heap.size w13 w15) := HB1314.out.trans (HB1415.out.mono HB1314.out.size)
  have HB1015 : Hid (Below w10.heap.size w10 w15) := HB1013.out.trans (HB1315.out.mono HB1013.out.size)
  have HB1215 : Hid (Below w12.heap.size w12 w15) := HB1213.out.trans (HB1315.out.mono HB1213.out.size)
  have HLb : Hid (Lb < w10.heap.size) := (HO.out.lt Lb rfl).2
  have HNe : Hid (S ≠ R ∧ Lb ≠ S ∧ Lb ≠ R ∧ M ≠ S ∧ M ≠ R ∧ Ob ≠ S ∧ Ob ≠ R ∧ w10.heap.size ≤ S ∧ w10.heap.size ≤ R) := show _ ∧ _ by
    have h1 := HRlt.out
    have h2 := HOlt.out
    have h3 := HLb.out
    have h4 := HB1213.out.size
    have h5 : w12.heap.size = Ob := hOb
    have h6 := HB1011.out.size
    have h7 := HB1112.out.size
    refine ⟨?_, ?_, ?_, ?_, ?_, ?_, ?_, ?_, ?_⟩ <;> omega
  clear h15
  obtain ⟨W, hWd⟩ : ∃ W, (wantL topic pin at0 at1 at2 g0 g1 g2 ((k : Int) + 1) depth np orig cur ths) = W := ⟨_, rfl⟩
  obtain ⟨D, hDd⟩ : ∃ D, initF (W.length / 2) W.toArray = D := ⟨_, rfl⟩
  have hcall : Calls Yba.prog 9 #[.pointer (some ⟨S, 0, none⟩), .pointer (some ⟨N, 0, none⟩), .int .i32 k, .agg #[.int .u8 3, .int .i32 topic, .int .i32 (-1), .int .i32 0, .int .i64 0, .int .i64 0, .int .i64 0, .int .i32 ((k : Int) + 1), .int .i32 depth, .int .i32 0, .int .i32 0, .bool true, .int .i8 0]] w15 fun r w' => r = .returned (.tuple #[]) ∧ Listed w15 w' S R M P k (preL P) D g0 g1 g2 := by
    have hMb := HM14.out
    have b := HB1415.out
    obtain ⟨n1, n2, n3, n4, n5, n6, n7, n8, n9⟩ := HNe.out
    rw [← hDd, ← hWd]
    refine list_any S R N M Pt Tb Bk mb nB Lb P k tcap tp ths topic pin at0 at1 at2 g0 g1 g2 vo uo vcc ucc orig cur np ⟨3, topic, -1, 0, 0, 0, 0, (k : Int) + 1, depth, 0, 0, true, 0⟩ (preL P) w15 hk2 hP3 (preL_len P) ?_ (HS14.out.keep b) (HRa.out.keep HB1215.out) ?_ n1 n2 n3 ?_
    · refine HN.out.toLPre HB1015.out ?_ ?_ (cell_keeps b (cellAt hMb rfl)) (cell_keeps b (cellAt hMb rfl)) (cell_keeps b (cellAt hMb rfl)) (cell_keeps b (cellAt hMb rfl)) (cell_keeps b (cellAt hMb rfl))
      · intro x hx
        simp only [List.mem_cons, List.not_mem_nil, or_false] at hx
        rcases hx with rfl | rfl
        · exact n8
        · exact n9
      · simp only [List.mem_cons, List.not_mem_nil, or_false, not_or]
        exact ⟨n4, n5⟩
    · exact fun x => (World.frozen?_of_block (a := ⟨R, x, none⟩) (HB1215.out.block R HRlt.out)).trans (HRf.out x)
    · intro j u hj
      refine cell_keeps HB1015.out ?_
      have hlen : ((preL P).flatMap encQ).length = P * 13 := by rw [flat_len, preL_len]
      have hjl : j < P * 13 := by
        rcases Nat.lt_or_ge j (P * 13) with h | h
        · exact h
        · rw [List.getElem?_eq_none (by omega)] at hj; cases hj
      rw [HO.out.cellAt j hjl]
      exact hj
  go_upto_block 6 with (go_at_call 9; refine hcall.mono ?_; rintro e w16 ⟨rfl, hlst⟩)
  have HLs : Hid (Listed w15 w16 S R M P k (preL P) D g0 g1 g2) := hlst
  clear hlst hcall u0 u1 u2 u3 u4 u5 u6 u7 u8 u9 u10 u11 u12
  have HB1016 : Hid (Below w10.heap.size w10 w16) := by
    obtain ⟨lg, lcap, qv, hLF, hQ⟩ := HLs.out
    obtain ⟨n1, n2, n3, n4, n5, n6, n7, n8, n9⟩ := HNe.out
    refine HB1015.out.trans (hLF.kept.toBelow ?_ HB1015.out.size)
    intro x hx
    simp only [List.mem_cons, List.not_mem_nil, or_false] at hx
    rcases hx with rfl | rfl
    · exact n8
    · exact n9
  have hN16 := HN.out.keep HB1016.out
  refine part4 nB Np At Gb k tcap ocap ccap oo co tp orig cur ths topic pin depth at0 at1 at2 g0 g1 g2 np w16 _ _ _ rfl rfl rfl rfl rfl rfl rfl rfl rfl rfl rfl rfl rfl rfl rfl hk2 hN16.hol hN16.hcl hN16.hlen hN16.hnB ⟨RO.out.keep HB1016.out, RC.out.keep HB1016.out, hN16.row, hN16.hold, cell_keeps HB1016.out HA.out.1, cell_keeps HB1016.out HA.out.2.1, cell_keeps HB1016.out HA.out.2.2, cell_keeps HB1016.out HG.out.1, cell_keeps HB1016.out HG.out.2.1, cell_keeps HB1016.out HG.out.2.2, hN16.npc, hN16.bnd⟩ ?_
  intro a' w17 wv hSm h48 hown hb17
  rename_i hKc
  refine hKc _ _ ?_
  rw [hWd] at hown
  obtain ⟨wp, wcap, rfl, _⟩ := own_slice' hown
  obtain ⟨lg, lcap, qv, hLF, hQ⟩ := HLs.out
  obtain ⟨n1, n2, n3, n4, n5, n6, n7, n8, n9⟩ := HNe.out
  have hDs : D.size = W.length := by rw [← hDd, initF_size]; simp
  have hWl : W.length ≤ 1024 := by
    rw [← hWd]
    exact Nat.le_trans want_len hN16.hlen
  have hkS : S < w16.heap.size := hLF.sat.lt
  have satD := hLF.sat
  have runD := hLF.run
  have capD := hLF.cap
  rw [hDs] at satD runD capD
  have hRo15 : RunAt w15 R (kk * 6) 1 (1 + (kk : Int)) 0 0 0 0 := HRo.out.keep HB1215.out
  have oth : ∀ x, x < 6 → (kk * 6 + x < k * 6 ∨ k * 6 + 6 ≤ kk * 6 + x) := fun x hx => by omega
  have hRo16 : RunAt w16 R (kk * 6) 1 (1 + (kk : Int)) 0 0 0 0 := ⟨hLF.oth _ _ (oth 0 (by omega)) hRo15.c0, hLF.oth _ _ (oth 1 (by omega)) hRo15.c1, hLF.oth _ _ (oth 2 (by omega)) hRo15.c2, hLF.oth _ _ (oth 3 (by omega)) hRo15.c3, hLF.oth _ _ (oth 4 (by omega)) hRo15.c4, hLF.oth _ _ (oth 5 (by omega)) hRo15.c5⟩
  have hOb13 : RunAt w13 Ob 0 1 (1 + (kk : Int)) 0 0 0 0 := ⟨cellAt HOb.out rfl, cellAt HOb.out rfl, cellAt HOb.out rfl, cellAt HOb.out rfl, cellAt HOb.out rfl, cellAt HOb.out rfl⟩
  have hOb15 : RunAt w15 Ob 0 1 (1 + (kk : Int)) 0 0 0 0 := hOb13.keep HB1315.out
  have hOb16 : RunAt w16 Ob 0 1 (1 + (kk : Int)) 0 0 0 0 := hOb15.of_block (hLF.kept.block Ob hOb15.lt (by simp only [List.mem_cons, List.not_mem_nil, or_false, not_or]; exact ⟨n6, n7⟩))
  refine tail68 w16.heap.size P W.length k kk S R M Ob lg lcap wcap wp qv g0 g1 g2 D W w0 w17 a' hSm.sz hSm.df hSm.s40 hSm.s43 hSm.s45 hSm.s46 h48 hk2 hkk (satD.keep hb17) (runD.keep hb17) (hRo16.keep hb17) (hOb16.keep hb17) ?_ capD hP3 hkS ?_ ?_ hWl hDs rfl ?_ ?_ hown ?_ ?_ (Nat.le_trans HB0.out.size HB1016.out.size) hb17.size ((HB0.out.trans (HB1016.out.mono HB0.out.size)).trans (hb17.mono (Nat.le_trans HB0.out.size HB1016.out.size)))
  · intro i hi
    have := hLF.ahead i hi
    rw [preL_get P i hi] at this
    exact this.keep hb17
  · intro hm0
    exact (hLF.ents 0 (by omega)).lt
  · rcases hQ with ⟨h1, h2⟩ | ⟨h1, qg, qcap, h2, h3⟩
    · exact Or.inl ⟨by omega, h2⟩
    · exact Or.inr ⟨by omega, qg, qcap, h2, h3.lt, h3.keep hb17⟩
  · exact fun i hi => (hLF.ents i (by omega)).keep hb17
  · rw [← hDd]
    have := init_heap W.toArray
    simpa using this
  · rw [← hDd]
    have := initF_perm (W.length / 2) W.toArray
    simpa using this
  · rw [← hWd]
    exact want_dist hN16.dist
end Go.Proofs.Ybulkkru.cst

import Derived.Test.YbulkkruQcmp
namespace Go.Proofs.Ybulkkru.cst
open Go.RowKit Go.Proofs.Ybulkkru.net
set_option linter.unusedVariables false

theorem keep6al {w w1 : World} {o : Obj} {a b c d f g : Addr} {x y z t u v : Value} (h : w1.cell? a = some x ∧ w1.cell? b = some y ∧ w1.cell? c = some z ∧ w1.cell? d = some t ∧ w1.cell? f = some u ∧ w1.cell? g = some v ∧ Laid w w1) :
    (w1.alloc o).drew.cell? a = some x ∧ (w1.alloc o).drew.cell? b = some y ∧ (w1.alloc o).drew.cell? c = some z ∧ (w1.alloc o).drew.cell? d = some t ∧ (w1.alloc o).drew.cell? f = some u ∧ (w1.alloc o).drew.cell? g = some v ∧ Laid w (w1.alloc o).drew := by
  have hb : Below w1.heap.size w1 (w1.alloc o).drew := ((Below.refl _ _).alloc (Nat.le_refl _) _).drew
  exact ⟨cell_keeps hb h.1, cell_keeps hb h.2.1, cell_keeps hb h.2.2.1, cell_keeps hb h.2.2.2.1, cell_keeps hb h.2.2.2.2.1, cell_keeps hb h.2.2.2.2.2.1, (h.2.2.2.2.2.2.alloc _).drew⟩
theorem keep6sl {w w1 : World} {a b c d f g : Addr} {x y z t u v : Value} (h : w1.cell? a = some x ∧ w1.cell? b = some y ∧ w1.cell? c = some z ∧ w1.cell? d = some t ∧ w1.cell? f = some u ∧ w1.cell? g = some v ∧ Laid w w1) :
    w1.drew.cell? a = some x ∧ w1.drew.cell? b = some y ∧ w1.drew.cell? c = some z ∧ w1.drew.cell? d = some t ∧ w1.drew.cell? f = some u ∧ w1.drew.cell? g = some v ∧ Laid w w1.drew :=
  ⟨h.1, h.2.1, h.2.2.1, h.2.2.2.1, h.2.2.2.2.1, h.2.2.2.2.2.1, h.2.2.2.2.2.2.drew⟩

set_option maxHeartbeats 2000000 in
set_option maxRecDepth 100000 in
theorem compareL_any (a0 a1 a2 b0 b1 b2 : Int) (w : World) :
    Calls Yba.prog 31 #[.agg #[.int .i64 a0, .int .i64 a1, .int .i64 a2], .agg #[.int .i64 b0, .int .i64 b1, .int .i64 b2]] w fun e w' => e = .returned (.int .i64 (cmp3 a0 a1 a2 b0 b1 b2)) ∧ Laid w w' := by
  go_enter Yba.func31, Yba.ntmps31
  go_wp2
  generalize hw2 : (w.alloc (.cells #[.int .i64 a0, .int .i64 a1, .int .i64 a2] 28)).alloc (.cells #[.int .i64 b0, .int .i64 b1, .int .i64 b2] 28) = w2
  have F : w2.cell? ⟨w.heap.size, 0, none⟩ = some (.int .i64 a0) ∧ w2.cell? ⟨w.heap.size, 1, none⟩ = some (.int .i64 a1) ∧ w2.cell? ⟨w.heap.size, 2, none⟩ = some (.int .i64 a2) ∧
      w2.cell? ⟨w.heap.size + 1, 0, none⟩ = some (.int .i64 b0) ∧ w2.cell? ⟨w.heap.size + 1, 1, none⟩ = some (.int .i64 b1) ∧ w2.cell? ⟨w.heap.size + 1, 2, none⟩ = some (.int .i64 b2) ∧ Laid w w2 := by
    subst hw2
    obtain ⟨t0, t1, t2, t3, t4, t5⟩ := two_start w a0 a1 a2 b0 b1 b2 28 28
    exact ⟨t0, t1, t2, t3, t4, t5, ((Laid.refl _).alloc _).alloc _⟩
  clear hw2
  have HF : Hid _ := F
  clear F
  go_region_held3 (fun w' => w'.cell? ⟨w.heap.size, 0, none⟩ = some (.int .i64 a0) ∧ w'.cell? ⟨w.heap.size, 1, none⟩ = some (.int .i64 a1) ∧ w'.cell? ⟨w.heap.size, 2, none⟩ = some (.int .i64 a2) ∧
      w'.cell? ⟨w.heap.size + 1, 0, none⟩ = some (.int .i64 b0) ∧ w'.cell? ⟨w.heap.size + 1, 1, none⟩ = some (.int .i64 b1) ∧ w'.cell? ⟨w.heap.size + 1, 2, none⟩ = some (.int .i64 b2) ∧ Laid w w')
    (first | with_reducible assumption | with_reducible exact keep6sl HF.out | with_reducible exact keep6al HF.out)
    (first | (go_at_call 46; refine (compareInt_any _ _ _).mono ?_; rintro e w' ⟨rfl, rfl⟩) | (go_at_call 30; refine (or3_any _ _ _ _ _ (by exact newc rfl) (by exact newc rfl) (by exact newc rfl)).mono ?_; rintro e w' ⟨rfl, rfl⟩))
  go_wp2
  go_ret
  exact ⟨rfl, (HF.out.2.2.2.2.2.2.alloc _).drew⟩

/-- An entry of the queue. -/
structure Q where
  kind : Int
  a : Int
  b : Int
  label : Int
  d0 : Int
  d1 : Int
  d2 : Int
  run : Int
  depth : Int
  f0 : Int
  f1 : Int
  ng : Bool
  md : Int
deriving DecidableEq, Inhabited

def encQ (e : Q) : List Value := [.int .u8 e.kind, .int .i32 e.a, .int .i32 e.b, .int .i32 e.label, .int .i64 e.d0, .int .i64 e.d1, .int .i64 e.d2, .int .i32 e.run, .int .i32 e.depth, .int .i32 e.f0, .int .i32 e.f1, .bool e.ng, .int .i8 e.md]

/-- The queue's order. -/
def cmpQ (x y : Q) : Int := orL [cmp3 x.d0 x.d1 x.d2 y.d0 y.d1 y.d2, cmpI (b2i x.ng) (b2i y.ng), cmpI y.depth x.depth, cmpI x.kind y.kind, cmpI x.md y.md, cmpI x.f0 y.f0, cmpI x.f1 y.f1, cmpI x.a y.a, cmpI x.b y.b]

def QAt (w : World) (blk off : Nat) (e : Q) : Prop := ∀ i, i < 13 → w.cell? ⟨blk, off + i, none⟩ = (encQ e)[i]?

theorem QAt.keep {w w' : World} {blk off : Nat} {e : Q} (h : QAt w blk off e) (hb : Below w.heap.size w w') : QAt w' blk off e := by
  intro i hi
  have hx : ∃ v, (encQ e)[i]? = some v := ⟨_, List.getElem?_eq_getElem (by simpa [encQ] using hi)⟩
  obtain ⟨v, hv⟩ := hx
  rw [hv]
  exact cell_keeps hb ((h i hi).trans hv)

theorem or9_any (b : Nat) (x0 x1 x2 x3 x4 x5 x6 x7 x8 : Int) (w : World) (h0 : w.cell? ⟨b, 0, none⟩ = some (.int .i64 x0)) (h1 : w.cell? ⟨b, 1, none⟩ = some (.int .i64 x1)) (h2 : w.cell? ⟨b, 2, none⟩ = some (.int .i64 x2)) (h3 : w.cell? ⟨b, 3, none⟩ = some (.int .i64 x3)) (h4 : w.cell? ⟨b, 4, none⟩ = some (.int .i64 x4)) (h5 : w.cell? ⟨b, 5, none⟩ = some (.int .i64 x5)) (h6 : w.cell? ⟨b, 6, none⟩ = some (.int .i64 x6)) (h7 : w.cell? ⟨b, 7, none⟩ = some (.int .i64 x7)) (h8 : w.cell? ⟨b, 8, none⟩ = some (.int .i64 x8)) :
    Calls Yba.prog 30 #[.slice (some ⟨b, 0, none⟩) 9 9] w fun e w' => e = .returned (.int .i64 (orL [x0, x1, x2, x3, x4, x5, x6, x7, x8])) ∧ w' = w :=
  or_any b 9 [x0, x1, x2, x3, x4, x5, x6, x7, x8] w (by simp) (fun k hk => match k, hk with | 0, _ => h0 | 1, _ => h1 | 2, _ => h2 | 3, _ => h3 | 4, _ => h4 | 5, _ => h5 | 6, _ => h6 | 7, _ => h7 | 8, _ => h8)

theorem keep22 {w w1 w' : World} {a0 a1 a2 a3 a4 a5 a6 a7 a8 a9 a10 a11 a12 a13 a14 a15 a16 a17 a18 a19 a20 a21 : Addr} {v0 v1 v2 v3 v4 v5 v6 v7 v8 v9 v10 v11 v12 v13 v14 v15 v16 v17 v18 v19 v20 v21 : Value} (h : w1.cell? a0 = some v0 ∧ w1.cell? a1 = some v1 ∧ w1.cell? a2 = some v2 ∧ w1.cell? a3 = some v3 ∧ w1.cell? a4 = some v4 ∧ w1.cell? a5 = some v5 ∧ w1.cell? a6 = some v6 ∧ w1.cell? a7 = some v7 ∧ w1.cell? a8 = some v8 ∧ w1.cell? a9 = some v9 ∧ w1.cell? a10 = some v10 ∧ w1.cell? a11 = some v11 ∧ w1.cell? a12 = some v12 ∧ w1.cell? a13 = some v13 ∧ w1.cell? a14 = some v14 ∧ w1.cell? a15 = some v15 ∧ w1.cell? a16 = some v16 ∧ w1.cell? a17 = some v17 ∧ w1.cell? a18 = some v18 ∧ w1.cell? a19 = some v19 ∧ w1.cell? a20 = some v20 ∧ w1.cell? a21 = some v21 ∧ Laid w w1) (hl : Laid w1 w') : w'.cell? a0 = some v0 ∧ w'.cell? a1 = some v1 ∧ w'.cell? a2 = some v2 ∧ w'.cell? a3 = some v3 ∧ w'.cell? a4 = some v4 ∧ w'.cell? a5 = some v5 ∧ w'.cell? a6 = some v6 ∧ w'.cell? a7 = some v7 ∧ w'.cell? a8 = some v8 ∧ w'.cell? a9 = some v9 ∧ w'.cell? a10 = some v10 ∧ w'.cell? a11 = some v11 ∧ w'.cell? a12 = some v12 ∧ w'.cell? a13 = some v13 ∧ w'.cell? a14 = some v14 ∧ w'.cell? a15 = some v15 ∧ w'.cell? a16 = some v16 ∧ w'.cell? a17 = some v17 ∧ w'.cell? a18 = some v18 ∧ w'.cell? a19 = some v19 ∧ w'.cell? a20 = some v20 ∧ w'.cell? a21 = some v21 ∧ Laid w w' := by
  have hb := hl.below
  exact ⟨cell_keeps hb h.1, cell_keeps hb h.2.1, cell_keeps hb h.2.2.1, cell_keeps hb h.2.2.2.1, cell_keeps hb h.2.2.2.2.1, cell_keeps hb h.2.2.2.2.2.1, cell_keeps hb h.2.2.2.2.2.2.1, cell_keeps hb h.2.2.2.2.2.2.2.1, cell_keeps hb h.2.2.2.2.2.2.2.2.1, cell_keeps hb h.2.2.2.2.2.2.2.2.2.1, cell_keeps hb h.2.2.2.2.2.2.2.2.2.2.1, cell_keeps hb h.2.2.2.2.2.2.2.2.2.2.2.1, cell_keeps hb h.2.2.2.2.2.2.2.2.2.2.2.2.1, cell_keeps hb h.2.2.2.2.2.2.2.2.2.2.2.2.2.1, cell_keeps hb h.2.2.2.2.2.2.2.2.2.2.2.2.2.2.1, cell_keeps hb h.2.2.2.2.2.2.2.2.2.2.2.2.2.2.2.1, cell_keeps hb h.2.2.2.2.2.2.2.2.2.2.2.2.2.2.2.2.1, cell_keeps hb h.2.2.2.2.2.2.2.2.2.2.2.2.2.2.2.2.2.1, cell_keeps hb h.2.2.2.2.2.2.2.2.2.2.2.2.2.2.2.2.2.2.1, cell_keeps hb h.2.2.2.2.2.2.2.2.2.2.2.2.2.2.2.2.2.2.2.1, cell_keeps hb h.2.2.2.2.2.2.2.2.2.2.2.2.2.2.2.2.2.2.2.2.1, cell_keeps hb h.2.2.2.2.2.2.2.2.2.2.2.2.2.2.2.2.2.2.2.2.2.1, (h.2.2.2.2.2.2.2.2.2.2.2.2.2.2.2.2.2.2.2.2.2.2).trans hl⟩

end Go.Proofs.Ybulkkru.cst

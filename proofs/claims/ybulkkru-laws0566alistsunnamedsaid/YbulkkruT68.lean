import Derived.Test.YbulkkruT82
import Derived.Test.YbulkkruListB
namespace Go.Proofs.Ybulkkru.cst
open Go.RowKit Go.Proofs Go.Proofs.Ybulkkru.net
set_option linter.unusedVariables false

theorem oneAlloc (w : World) (A : Array Value) (s : TypeId) : Below w.heap.size w (w.alloc (.cells A s)) ∧ (w.alloc (.cells A s)).heap[w.heap.size]? = some (.cells A s (0, 0)) := ⟨(Below.refl w.heap.size w).alloc (Nat.le_refl _) _, heap_alloc_new _ _⟩

set_option maxHeartbeats 8000000 in
set_option maxRecDepth 100000 in
theorem tail68 (B P m k kk S R M Ob lg lcap wcap : Nat) (wp : Option Addr) (qv : Value) (g0 g1 g2 : Int) (D : Array Q) (W : List Q) (w0 w : World) (a : Act) (hsz : a.tmps.size = 474) (hd : a.defers = []) (h40 : a.tmps.getD 40 undef = .int .i64 P) (h43 : a.tmps.getD 43 undef = .int .i32 k) (h45 : a.tmps.getD 45 undef = .pointer (some ⟨Ob, 0, none⟩)) (h46 : a.tmps.getD 46 undef = .pointer (some ⟨S, 0, none⟩)) (h48 : a.tmps.getD 48 undef = .slice wp m wcap)
    (hk : k < 2) (hkk : 1 - k = kk) (sat : SAt w S R M (.slice (some ⟨lg, 0, none⟩) (P + m) lcap) qv g0 g1 g2 (3 + (m : Int))) (hrun : RunAt w R (k * 6) 3 7 0 0 P ((P : Int) + (m : Int))) (hoth : RunAt w R (kk * 6) 1 (1 + (kk : Int)) 0 0 0 0) (hob : RunAt w Ob 0 1 (1 + (kk : Int)) 0 0 0 0) (hpre : ∀ i, i < P → QAt w lg (i * 13) (preQ i))
    (hcap : P + m ≤ lcap) (hP : P ≤ 3) (hSB : S < B) (hlB : 0 < m → lg < B) (hq : (m = 0 ∧ qv = .slice none 0 0) ∨ (0 < m ∧ ∃ qg qcap, qv = .slice (some ⟨qg, 0, none⟩) 1 qcap ∧ qg < B ∧ QAt w qg 0 D[0]!))
    (hm : m ≤ 1024) (hD : D.size = m) (hW : W.length = m) (hents : ∀ i, i < m → QAt w lg ((P + i) * 13) D[i]!) (hheap : HeapFrom D 0) (hown : w.ownsRow B 77 13 (.slice wp m wcap) m (W.flatMap encQ)) (hperm : D.toList.Perm W) (hdist : ∀ x ∈ W, ∀ y ∈ W, x.b = y.b → x = y)
    (hB0 : w0.heap.size ≤ B) (hBw : B ≤ w.heap.size) (hB : Below w0.heap.size w0 w) :
    Code.wp Yba.prog C68 (LawPost w0) a w := by
  have key : ∀ w' a', Below w.heap.size w w' → a'.tmps.size = 474 → a'.defers = [] → a'.tmps.getD 40 undef = .int .i64 P → a'.tmps.getD 46 undef = .pointer (some ⟨S, 0, none⟩) → a'.tmps.getD 48 undef = .slice wp m wcap → Code.wp Yba.prog C82 (LawPost w0) a' w' := by
    intro w' a' hb k1 k2 k3 k4 k5
    refine tail82 B P m S lg lcap wcap wp qv D W w0 w' a' k1 k2 k3 k4 k5 (cell_keeps hb sat.s2) (cell_keeps hb sat.s4) hcap hP hSB hlB ?_ hm hD hW (fun i hi => (hents i hi).keep hb) hheap ?_ hperm hdist hB0 (Nat.le_trans hBw hb.size) (hB.trans (hb.mono hB.size))
    · rcases hq with h | ⟨h1, qg, qcap, h2, h3, h4⟩
      · exact Or.inl h
      · exact Or.inr ⟨h1, qg, qcap, h2, h3, h4.keep hb⟩
    · obtain ⟨ha, h2 | ⟨g', cap', cur, e, h3, hg', h5⟩⟩ := hown
      · exact ⟨ha, Or.inl h2⟩
      · exact ⟨ha, Or.inr ⟨g', cap', cur, e, h3, (hb.block _ (lt_of_block hg')).trans hg', h5⟩⟩
  obtain ⟨t, df⟩ := a
  simp only at hsz hd h40 h43 h45 h46 h48
  subst hd
  obtain ⟨f, hf, rfl⟩ := lit474 t hsz
  rw [hf] at h40 h43 h45 h46 h48
  have HKy : Hid _ := key
  have HPr : Hid (∀ i, i < P → QAt w lg (i * 13) (preQ i)) := hpre
  have HS : Hid (SAt w S R M (.slice (some ⟨lg, 0, none⟩) (P + m) lcap) qv g0 g1 g2 (3 + (m : Int))) := sat
  have HR : Hid (RunAt w R (k * 6) 3 7 0 0 P ((P : Int) + (m : Int))) := hrun
  have HRo : Hid (RunAt w R (kk * 6) 1 (1 + (kk : Int)) 0 0 0 0) := hoth
  have HOb : Hid (RunAt w Ob 0 1 (1 + (kk : Int)) 0 0 0 0) := hob
  have k0' : (0 : Int) ≤ (k : Int) := by omega
  have k1' : (k : Int) < 2 := by omega
  obtain ⟨c0, c1, c2, c3, c4, c5⟩ := hrun
  have s3 := sat.s3
  clear hB hf hsz key hents hq hSB hlB hBw hB0 hperm hdist hown hheap hcap hW hD sat hoth hob hpre
  rw [h40, h43, h45, h46, h48]
  show Code.wp Yba.prog C68 (bodyPost Yba.prog Yba.f3 fun e w' => e = .returned (.bool true) ∧ Below w0.heap.size w0 w') _ w
  conv => arg 2; whnf
  go_upto_region 69 with (fail)
  obtain ⟨h1a, h1b⟩ := oneAlloc w #[.int .u8 3, .int .i32 7, .int .i32 0, .int .i32 0, .int .i32 P, .int .i32 ((P : Int) + (m : Int))] 80
  generalize w.alloc (.cells #[.int .u8 3, .int .i32 7, .int .i32 0, .int .i32 0, .int .i32 P, .int .i32 ((P : Int) + (m : Int))] 80) = w1 at h1a h1b ⊢
  have HB1 : Hid (Below w.heap.size w w1) := h1a
  clear c0 c1 c2 c3 c4 c5 s3
  obtain ⟨rr, hrr⟩ : ∃ rr, w.heap.size = rr := ⟨_, rfl⟩
  rw [hrr] at h1b
  rw [hrr]
  have r0 : w1.cell? ⟨rr, 0, none⟩ = some (.int .u8 3) := cellAt h1b rfl
  have r1 : w1.cell? ⟨rr, 1, none⟩ = some (.int .i32 7) := cellAt h1b rfl
  have r3 : w1.cell? ⟨rr, 3, none⟩ = some (.int .i32 0) := cellAt h1b rfl
  have r4 : w1.cell? ⟨rr, 4, none⟩ = some (.int .i32 P) := cellAt h1b rfl
  have r5 : w1.cell? ⟨rr, 5, none⟩ = some (.int .i32 ((P : Int) + (m : Int))) := cellAt h1b rfl
  have e1 : IntKind.i32.wrap (P : Int) = P := by rw [IntKind.wrap_i32]; omega
  have e2 : IntKind.i64.wrap ((P : Int) + (m : Int)) = (P : Int) + (m : Int) := by rw [IntKind.wrap_i64]; omega
  have e3 : IntKind.i32.wrap ((P : Int) + (m : Int)) = (P : Int) + (m : Int) := by rw [IntKind.wrap_i32]; omega
  clear h1a h1b
  go_upto_region 71 with (fail)
  clear r0 r1 r3 r4 r5
  have kkI : (1 : Int) - (k : Int) = (kk : Int) := by omega
  have kkw : IntKind.i32.wrap (kk : Int) = kk := by rw [IntKind.wrap_i32]; omega
  have kk0 : (0 : Int) ≤ (kk : Int) := by omega
  have kk1 : (kk : Int) < 2 := by omega
  have s3 := (HS.out.keep HB1.out).s3
  obtain ⟨c0, c1, c2, c3, c4, c5⟩ := HRo.out.keep HB1.out
  obtain ⟨d0, d1, d2, d3, d4, d5⟩ := HOb.out.keep HB1.out
  have hneq : ∀ W, (binOp .neq 80 (.agg #[.int .u8 1, .int .i32 (1 + (kk : Int)), .int .i32 0, .int .i32 0, .int .i32 0, .int .i32 0]) (.agg #[.int .u8 1, .int .i32 (1 + (kk : Int)), .int .i32 0, .int .i32 0, .int .i32 0, .int .i32 0])).run Yba.prog W = .ok (.bool false) W := fun W => neq80 1 (1 + (kk : Int)) 0 0 0 0 W
  go_quiet (fail)
  have HB2 : Hid (Below w.heap.size w (w1.drewN nq)) := by
    have hl : Laid w1 (w1.drewN nq) := ⟨nq, #[], by simp⟩
    exact HB1.out.trans (hl.below.mono HB1.out.size)
  clear c0 c1 c2 c3 c4 c5 d0 d1 d2 d3 d4 d5 s3 hneq
  generalize w1.drewN nq = w2 at HB2 ⊢
  have s15 := (HS.out.keep HB2.out).s15
  have s4 := (HS.out.keep HB2.out).s4
  have e4 : IntKind.i64.wrap (3 + (m : Int)) = 3 + (m : Int) := by rw [IntKind.wrap_i64]; omega
  go_upto_block 12 with (fail)
  refine part7 P S lg (P + m) lcap w2 _ _ _ rfl rfl rfl rfl rfl hP (by omega) s4 (fun i hi => (HPr.out i hi).keep HB2.out) ?_
  intro a' hS
  rename_i hKc
  refine hKc _ _ ?_
  exact HKy.out w2 a' HB2.out hS.sz hS.df hS.s40 hS.s46 hS.s48
end Go.Proofs.Ybulkkru.cst

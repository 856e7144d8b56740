import Derived.Test.YbulkkruKeyed
import Derived.Test.YbulkkruDown
import Derived.Laws.AppendOwn
import Derived.Deep.RegionLaw
namespace Go.Proofs.Ybulkkru.cst
open Go.RowKit Go.Proofs Go.Proofs.Ybulkkru.net
set_option linter.unusedVariables false

theorem info77 : (Yba.prog.info? 77).map (fun i => (i.zero, i.size, i.bytes)) = some (some (.agg #[.int .u8 0, .int .i32 0, .int .i32 0, .int .i32 0, .int .i64 0, .int .i64 0, .int .i64 0, .int .i32 0, .int .i32 0, .int .i32 0, .int .i32 0, .bool false, .int .i8 0]), 13, 64) := by kernel_rfl

theorem own_shape {w : World} {base e size n : Nat} {v : Value} {xs : List Value} (h : w.ownsRow base e size v n xs) (hn : 0 < n) : ∃ g cap, v = .slice (some ⟨g, 0, none⟩) n cap ∧ base ≤ g ∧ g < w.heap.size := by
  have hl := h.lt
  obtain ⟨_, h2 | ⟨g, cap, cur, rfl, hb, hg, _⟩⟩ := h
  · omega
  · exact ⟨g, cap, rfl, hb, (hl g rfl).2⟩

/-- 'append(row, entry)' as one step of a region. -/
theorem step_appendQ {ops : Array Oper} {o : Oper} {a : Act} {w : World} {K : Act → World → Prop} {Q' : Exit → Act → World → Prop} {E : Prop} (hg : o.guard = none) (s x : Operand) (t : TypeId) (ht : Yba.prog.underlying t = some (.slice 77))
    (hop : o.op = Op.call { callee := Callee.builtin Builtin.append, args := #[s, x], argTypes := #[t, t] }) (base : Nat) (v : Value) (n : Nat) (xs : List Value) (e : Q) (ad : Addr) (c : Nat) (hs : a.eval s = v) (hx : a.eval x = .slice (some ad) 1 c)
    (hown : w.ownsRow base 77 13 v n xs) (hc : ∀ j u, (encQ e)[j]? = some u → w.cell? (ad.add j) = some u) (hn : n ≤ 100000) (hbase : base ≤ w.heap.size)
    (hK : ∀ g cap w', w'.ownsRow base 77 13 (.slice (some ⟨g, 0, none⟩) (n + 1) cap) (n + 1) (xs ++ encQ e) → w.grownBy w' v.ownBlock → base ≤ g → g < w'.heap.size → K (a.put o.dst (.slice (some ⟨g, 0, none⟩) (n + 1) cap)) w') :
    if Region.wanted o (yielded ops a.tmps) = true then Oper.wp Yba.prog o a w K Q' else E := by
  have hw : Region.wanted o (yielded ops a.tmps) = true := by simp [Region.wanted, hg]
  rw [if_pos hw]
  obtain ⟨i, hi, hz, hsz, hbt⟩ := info_parts info77
  refine wp_append_own w s x t hop base 77 i _ 13 64 ht hi hz hsz hbt rfl (by omega) v n xs hs hown ad 1 c (encQ e) hx rfl hc (encQ_one e) (by unfold maxLen; omega) (by omega) hbase ?_
  intro v' w' h1 h2 _
  obtain ⟨g, cap, rfl, hb, hlt⟩ := own_shape h1 (by omega)
  exact hK g cap w' h1 h2 hb hlt

theorem newsQ (w : World) (e : Q) : ∀ j u, (encQ e)[j]? = some u → (w.alloc (.cells (encQ e).toArray 77)).cell? ((⟨w.heap.size, 0, none⟩ : Addr).add j) = some u := by
  intro j u h
  rw [WideShapes.add_plain, Nat.zero_add, World.cell?_alloc_at _ _ _ _ rfl, List.getElem?_toArray]
  exact h
theorem grown_frozen {w w' : World} {row : Option Nat} (hg : w.grownBy w' row) {a : Addr} {v : Value} (h : w.cell? a = some v) (hne : some a.block ≠ row) (hf : w.frozen? a = false) : w'.frozen? a = false :=
  (World.frozen?_of_block (w := w) (hg.block a.block (World.block_lt_of_cell? w a h) hne)).trans hf
theorem Below.of_grown {w w' : World} {row : Option Nat} (hg : w.grownBy w' row) {B : Nat} (hB : B ≤ w.heap.size) (hr : ∀ k, row = some k → B ≤ k) : Below B w w' :=
  ⟨hg.os, hg.tape, hg.output, hg.size, fun k hk => hg.block k (by omega) (fun e => by have := hr k e.symm; omega)⟩

/-- A store and what has grown: what is kept. -/
structure Pushed (w w' : World) (S : Nat) (e : Q) : Prop where
  q : ∃ g cap, w'.cell? ⟨S, 2, none⟩ = some (.slice (some ⟨g, 0, none⟩) 1 cap) ∧ QAt w' g 0 e
  other : ∀ a v, a ≠ ⟨S, 2, none⟩ → w.cell? a = some v → w'.cell? a = some v
  below : ∀ B, B ≤ S → Below B w w'
  blk : ∀ k, k < w.heap.size → k ≠ S → w'.heap[k]? = w.heap[k]?
  fr : ∀ x, w.frozen? ⟨S, x, none⟩ = false → w'.frozen? ⟨S, x, none⟩ = false

theorem pushed_of {w w1 W w2 : World} {S g cap : Nat} {e : Q} (hb1 : Below w.heap.size w w1) (hbW : Below w1.heap.size w1 W) (hgrow : W.grownBy w2 none) (hown : w2.ownsRow w.heap.size 77 13 (.slice (some ⟨g, 0, none⟩) 1 cap) 1 (encQ e)) (hg : w.heap.size ≤ g) (hS : w2.cell? ⟨S, 2, none⟩ = some (.slice none 0 0)) (hlt : S < w.heap.size) :
    Pushed w (w2.setCell ⟨S, 2, none⟩ (.slice (some ⟨g, 0, none⟩) 1 cap)) S e := by
  have h02 : Below w.heap.size w w2 := (hb1.trans (hbW.mono hb1.size)).trans (Below.of_grown hgrow (Nat.le_trans hb1.size hbW.size) (fun k h => by cases h))
  refine ⟨⟨g, cap, World.cell?_setCell_same _ _ _ (by rw [hS]), fun i hi => ?_⟩, fun a v ha hv => ?_, fun B hB => ?_, fun k hk hne => ?_, fun x hx => ?_⟩
  · rw [World.cell?_setCell_other _ _ _ _ (fun e => by injection e with e; omega), Nat.zero_add, hown.cellAt i (by omega)]
  · rw [World.cell?_setCell_other _ _ _ _ (Ne.symm ha)]
    exact cell_keeps h02 hv
  · exact (h02.mono (by omega)).setCell hB _
  · rw [setcell_other _ hne]
    exact h02.block k hk
  · rw [World.frozen?_setCell]
    exact (World.frozen?_of_block (a := ⟨S, x, none⟩) (h02.block S hlt)).trans hx

set_option maxHeartbeats 4000000 in
set_option maxRecDepth 100000 in
theorem push_any (S : Nat) (e : Q) (w : World) (hq : w.cell? ⟨S, 2, none⟩ = some (.slice none 0 0)) (hf : w.frozen? ⟨S, 2, none⟩ = false) :
    Calls Yba.prog 29 #[.pointer (some ⟨S, 2, none⟩), .agg (encQ e).toArray] w fun r w' => r = .returned (.tuple #[]) ∧ Pushed w w' S e := by
  have HQ : Hid _ := hq
  have HFr : Hid _ := hf
  have hlt : S < w.heap.size := World.block_lt_of_cell? _ _ hq
  have key : ∀ w1, w1 = w.alloc (.cells (encQ e).toArray 77) → Below w.heap.size w w1 ∧ w1.heap[w.heap.size]? = some (.cells (encQ e).toArray 77 (0, 0)) := by
    rintro w1 rfl
    exact ⟨(Below.refl _ _).alloc (Nat.le_refl _) _, heap_alloc_new _ _⟩
  clear hq hf
  have HE : Hid (∀ (x : Q), x = e → encQ x = encQ e) := fun x h => by rw [h]
  obtain ⟨k0, a0, b0, lb, d0, d1, d2, rn, dp, f0, f1, ng, md⟩ := e
  simp only [encQ] at key ⊢
  go_enter Yba.func29, Yba.ntmps29
  go_upto_region 1 with (fail)
  obtain ⟨hb1, hq1⟩ := key _ rfl
  generalize w.alloc (.cells #[.int .u8 k0, .int .i32 a0, .int .i32 b0, .int .i32 lb, .int .i64 d0, .int .i64 d1, .int .i64 d2, .int .i32 rn, .int .i32 dp, .int .i32 f0, .int .i32 f1, .bool ng, .int .i8 md] 77) = w1 at hb1 hq1 ⊢
  have HB1 : Hid _ := hb1
  have HQ1 : Hid _ := hq1
  have s2 := cell_keeps hb1 HQ.out
  have z2 := frozen_keep hb1 HQ.out HFr.out
  have ne1 := World.new_ne w1 ⟨S, 2, none⟩ s2
  have s2a : (w1.alloc (.cells #[.int .u8 k0, .int .i32 a0, .int .i32 b0, .int .i32 lb, .int .i64 d0, .int .i64 d1, .int .i64 d2, .int .i32 rn, .int .i32 dp, .int .i32 f0, .int .i32 f1, .bool ng, .int .i8 md] 77)).drew.cell? ⟨S, 2, none⟩ = some (.slice none 0 0) := cell_keeps (((Below.refl _ _).alloc (Nat.le_refl _) _).drew) s2
  clear key hb1 hq1
  have u0 : w1.cell? ⟨w.heap.size, 0, none⟩ = some (.int .u8 k0) := cellAt HQ1.out rfl
  have u1 : w1.cell? ⟨w.heap.size, 1, none⟩ = some (.int .i32 a0) := cellAt HQ1.out rfl
  have u2 : w1.cell? ⟨w.heap.size, 2, none⟩ = some (.int .i32 b0) := cellAt HQ1.out rfl
  have u3 : w1.cell? ⟨w.heap.size, 3, none⟩ = some (.int .i32 lb) := cellAt HQ1.out rfl
  have u4 : w1.cell? ⟨w.heap.size, 4, none⟩ = some (.int .i64 d0) := cellAt HQ1.out rfl
  have u5 : w1.cell? ⟨w.heap.size, 5, none⟩ = some (.int .i64 d1) := cellAt HQ1.out rfl
  have u6 : w1.cell? ⟨w.heap.size, 6, none⟩ = some (.int .i64 d2) := cellAt HQ1.out rfl
  have u7 : w1.cell? ⟨w.heap.size, 7, none⟩ = some (.int .i32 rn) := cellAt HQ1.out rfl
  have u8 : w1.cell? ⟨w.heap.size, 8, none⟩ = some (.int .i32 dp) := cellAt HQ1.out rfl
  have u9 : w1.cell? ⟨w.heap.size, 9, none⟩ = some (.int .i32 f0) := cellAt HQ1.out rfl
  have u10 : w1.cell? ⟨w.heap.size, 10, none⟩ = some (.int .i32 f1) := cellAt HQ1.out rfl
  have u11 : w1.cell? ⟨w.heap.size, 11, none⟩ = some (.bool ng) := cellAt HQ1.out rfl
  have u12 : w1.cell? ⟨w.heap.size, 12, none⟩ = some (.int .i8 md) := cellAt HQ1.out rfl
  go_region_law (refine step_appendQ rfl (.tmp 10) (.tmp 12) 60 Yba.underlying60 rfl w.heap.size (.slice none 0 0) 0 [] ⟨k0, a0, b0, lb, d0, d1, d2, rn, dp, f0, f1, ng, md⟩ ⟨w1.heap.size, 0, none⟩ 1 rfl rfl (World.ownsRow_nil _ _ _ _) (newsQ w1.drew _) (by omega) (by exact Nat.le_trans HB1.out.size (by simp)) ?_; intro g cap w2 hown hgrow hbg hltg; have c2 := hgrow.cell (a := ⟨S, 2, none⟩) (v := .slice none 0 0) (cell_keeps (((Below.refl _ _).alloc (Nat.le_refl _) _).drew) s2) (by simp [Value.ownBlock]); have f2 := grown_frozen hgrow (a := ⟨S, 2, none⟩) (v := .slice none 0 0) (cell_keeps (((Below.refl _ _).alloc (Nat.le_refl _) _).drew) s2) (by simp [Value.ownBlock]) (frozen_keep (((Below.refl _ _).alloc (Nat.le_refl _) _).drew) s2 z2))
  all_goals
    have HP : Hid (Pushed w (w2.setCell ⟨S, 2, none⟩ (.slice (some ⟨g, 0, none⟩) 1 cap)) S ⟨k0, a0, b0, lb, d0, d1, d2, rn, dp, f0, f1, ng, md⟩) := pushed_of HB1.out (((Below.refl _ _).alloc (Nat.le_refl _) _).drew) hgrow (by simpa using hown) hbg c2 hlt
    have cS : (w2.setCell ⟨S, 2, none⟩ (.slice (some ⟨g, 0, none⟩) 1 cap)).cell? ⟨S, 2, none⟩ = some (.slice (some ⟨g, 0, none⟩) 1 cap) := World.cell?_setCell_same _ _ _ (by rw [c2])
    generalize w2.setCell ⟨S, 2, none⟩ (.slice (some ⟨g, 0, none⟩) 1 cap) = w3 at HP cS ⊢
    clear hown hgrow hbg hltg c2 f2 u0 u1 u2 u3 u4 u5 u6 u7 u8 u9 u10 u11 u12 s2a ne1 z2 s2
    go_wp2
    go_loopg [5] 0 (fun kx s5 wr => s5 = .int .i64 0 ∧ wr = w3)
    case atStart => exact ⟨by go_num, rfl⟩
    case round =>
      obtain ⟨rfl, rfl⟩ := hrel
      go_wp2
      (try simp only [Exit.inBlock, Exit.then]); refine bodyPost_end (results_none rfl _ _ _) rfl ?_
      exact ⟨rfl, HP.out⟩
end Go.Proofs.Ybulkkru.cst

import Derived.Test.YbulkkruNetC
namespace Go.Proofs.Ybulkkru.cst
open Go.RowKit Go.Proofs Go.Proofs.Ybulkkru.net
set_option linter.unusedVariables false

structure NetF (w5 w6 : World) (Bk nB mb ol cl tl tcap vcc ucc : Nat) (topic pin : Int) (vo uo tp : Option Addr) : Prop where
  below : Below w5.heap.size w5 w6
  size : w6.heap.size = w5.heap.size + 3
  n0 : w6.cell? ⟨w5.heap.size + 1 + 1, 0, none⟩ = some (.slice (some ⟨w5.heap.size, 0, none⟩) 1 1)
  n1 : w6.cell? ⟨w5.heap.size + 1 + 1, 1, none⟩ = some (.slice (some ⟨Bk, 0, none⟩) nB nB)
  n2 : w6.cell? ⟨w5.heap.size + 1 + 1, 2, none⟩ = some (.slice none 0 0)
  n3 : w6.cell? ⟨w5.heap.size + 1 + 1, 3, none⟩ = some (.map (some mb))
  n5 : w6.cell? ⟨w5.heap.size + 1 + 1, 5, none⟩ = some (.slice (some ⟨w5.heap.size + 1, 0, none⟩) 1 1)
  n20 : w6.cell? ⟨w5.heap.size + 1 + 1, 20, none⟩ = some (.int .i64 0)
  p0 : w6.cell? ⟨w5.heap.size, 0, none⟩ = some (.int .i32 topic)
  p2 : w6.cell? ⟨w5.heap.size, 2, none⟩ = some (.slice vo ol vcc)
  p3 : w6.cell? ⟨w5.heap.size, 3, none⟩ = some (.slice uo cl ucc)
  p7 : w6.cell? ⟨w5.heap.size, 7, none⟩ = some (.int .i32 pin)
  tb : w6.cell? ⟨w5.heap.size + 1, 0, none⟩ = some (.slice tp tl tcap)

theorem three_alloc (w : World) (A B C : Array Value) (s t u : TypeId) : Below w.heap.size w (((w.alloc (.cells A s)).alloc (.cells B t)).alloc (.cells C u)) ∧ (((w.alloc (.cells A s)).alloc (.cells B t)).alloc (.cells C u)).heap.size = w.heap.size + 3 ∧
    (((w.alloc (.cells A s)).alloc (.cells B t)).alloc (.cells C u)).heap[w.heap.size]? = some (.cells A s (0, 0)) ∧ (((w.alloc (.cells A s)).alloc (.cells B t)).alloc (.cells C u)).heap[w.heap.size + 1]? = some (.cells B t (0, 0)) ∧ (((w.alloc (.cells A s)).alloc (.cells B t)).alloc (.cells C u)).heap[w.heap.size + 1 + 1]? = some (.cells C u (0, 0)) := by
  refine ⟨(((Below.refl _ _).alloc (Nat.le_refl _) _).alloc (by simp) _).alloc (by simp; omega) _, by simp, ?_, ?_, ?_⟩
  · exact (Below.heap_alloc _ _ _ (by simp; omega)).trans ((Below.heap_alloc _ _ _ (by simp)).trans (heap_alloc_new _ _))
  · refine (Below.heap_alloc _ _ _ (by simp)).trans ?_
    have := heap_alloc_new (w.alloc (.cells A s)) (.cells B t)
    simpa using this
  · have := heap_alloc_new ((w.alloc (.cells A s)).alloc (.cells B t)) (.cells C u)
    simpa using this

theorem net6 (w5 : World) (Bk nB mb ol cl tl tcap vcc ucc : Nat) (topic pin : Int) (vo uo tp : Option Addr) : NetF w5 (((w5.alloc (.cells #[.int .i32 topic, .int .i64 0, .slice vo ol vcc, .slice uo cl ucc, .slice none 0 0, .bool false, .int .i32 0, .int .i32 pin, .int .i64 0, .int .i64 0, .int .i64 0, .int .i64 0, .int .i64 0, .int .i64 0, .int .i64 0, .int .i64 0, .int .i64 0, .slice none 0 0, .slice none 0 0] 50)).alloc (.cells #[.slice tp tl tcap] 35)).alloc (.cells #[.slice (some ⟨w5.heap.size, 0, none⟩) 1 1, .slice (some ⟨Bk, 0, none⟩) nB nB, .slice none 0 0, .map (some mb), .slice none 0 0, .slice (some ⟨w5.heap.size + 1, 0, none⟩) 1 1, .slice none 0 0, .slice none 0 0, .int .i64 0, .int .i64 0, .slice none 0 0, .slice none 0 0, .slice none 0 0, .bool false, .bool false, .int .i64 0, .slice none 0 0, .int .i64 0, .int .i64 0, .slice none 0 0, .int .i64 0, .slice none 0 0, .slice none 0 0, .slice none 0 0, .slice none 0 0, .slice none 0 0, .slice none 0 0, .map none, .slice none 0 0, .int .u8 0, .int .i32 0, .int .i32 0, .bool false, .map none, .slice none 0 0, .slice none 0 0, .int .i32 0, .int .i64 0] 73)) Bk nB mb ol cl tl tcap vcc ucc topic pin vo uo tp := by
  obtain ⟨h1, h2, h3, h4, h5⟩ := three_alloc w5 #[.int .i32 topic, .int .i64 0, .slice vo ol vcc, .slice uo cl ucc, .slice none 0 0, .bool false, .int .i32 0, .int .i32 pin, .int .i64 0, .int .i64 0, .int .i64 0, .int .i64 0, .int .i64 0, .int .i64 0, .int .i64 0, .int .i64 0, .int .i64 0, .slice none 0 0, .slice none 0 0] #[.slice tp tl tcap] #[.slice (some ⟨w5.heap.size, 0, none⟩) 1 1, .slice (some ⟨Bk, 0, none⟩) nB nB, .slice none 0 0, .map (some mb), .slice none 0 0, .slice (some ⟨w5.heap.size + 1, 0, none⟩) 1 1, .slice none 0 0, .slice none 0 0, .int .i64 0, .int .i64 0, .slice none 0 0, .slice none 0 0, .slice none 0 0, .bool false, .bool false, .int .i64 0, .slice none 0 0, .int .i64 0, .int .i64 0, .slice none 0 0, .int .i64 0, .slice none 0 0, .slice none 0 0, .slice none 0 0, .slice none 0 0, .slice none 0 0, .slice none 0 0, .map none, .slice none 0 0, .int .u8 0, .int .i32 0, .int .i32 0, .bool false, .map none, .slice none 0 0, .slice none 0 0, .int .i32 0, .int .i64 0] 50 35 73
  exact ⟨h1, h2, cellAt h5 rfl, cellAt h5 rfl, cellAt h5 rfl, cellAt h5 rfl, cellAt h5 rfl, cellAt h5 rfl, cellAt h3 rfl, cellAt h3 rfl, cellAt h3 rfl, cellAt h3 rfl, cellAt h4 rfl⟩

theorem net6_tail {P : Program} {c : Code} {Q' : Exit → Act → World → Prop} {a : Act} {w5 : World} {Bk nB mb ol cl tl tcap vcc ucc : Nat} {topic pin : Int} {vo uo tp : Option Addr} (h : ∀ w6, NetF w5 w6 Bk nB mb ol cl tl tcap vcc ucc topic pin vo uo tp → Code.wp P c Q' a w6) : Code.wp P c Q' a (((w5.alloc (.cells #[.int .i32 topic, .int .i64 0, .slice vo ol vcc, .slice uo cl ucc, .slice none 0 0, .bool false, .int .i32 0, .int .i32 pin, .int .i64 0, .int .i64 0, .int .i64 0, .int .i64 0, .int .i64 0, .int .i64 0, .int .i64 0, .int .i64 0, .int .i64 0, .slice none 0 0, .slice none 0 0] 50)).alloc (.cells #[.slice tp tl tcap] 35)).alloc (.cells #[.slice (some ⟨w5.heap.size, 0, none⟩) 1 1, .slice (some ⟨Bk, 0, none⟩) nB nB, .slice none 0 0, .map (some mb), .slice none 0 0, .slice (some ⟨w5.heap.size + 1, 0, none⟩) 1 1, .slice none 0 0, .slice none 0 0, .int .i64 0, .int .i64 0, .slice none 0 0, .slice none 0 0, .slice none 0 0, .bool false, .bool false, .int .i64 0, .slice none 0 0, .int .i64 0, .int .i64 0, .slice none 0 0, .int .i64 0, .slice none 0 0, .slice none 0 0, .slice none 0 0, .slice none 0 0, .slice none 0 0, .slice none 0 0, .map none, .slice none 0 0, .int .u8 0, .int .i32 0, .int .i32 0, .bool false, .map none, .slice none 0 0, .slice none 0 0, .int .i32 0, .int .i64 0] 73)) :=
  h _ (net6 w5 Bk nB mb ol cl tl tcap vcc ucc topic pin vo uo tp)

theorem NetC.of {w1 w2 w3 w4 w5 w6 wn : World} {Bk Np nB mb Sn tcap vcc ucc : Nat} {topic pin : Int} {vo uo tp : Option Addr} {orig cur : List Int} {ths : List Th} {bparts : List Int} (hF : NetF w5 w6 Bk nB mb orig.length cur.length ths.length tcap vcc ucc topic pin vo uo tp) (hT : ThB w2 w3 mb Sn nB topic (.slice tp ths.length tcap) ths) (hBr : Brk wn w1 Bk Np nB nB (npOf bparts)) (hb13 : Below w1.heap.size w1 w3) (hcl1 : Cloned w3 w4 vo orig) (hcl2 : Cloned w4 w5 uo cur)
    (hnB8 : nB ≤ 8) (hnB0 : 0 < nB) (hlen : ths.length ≤ 1024) (t32 : Is32 topic) (b1 : orig.length ≤ 1024) (b2 : cur.length ≤ 1024) : NetC w6 (w5.heap.size + 1 + 1) w5.heap.size (w5.heap.size + 1) Bk Np mb nB tp tcap ths topic pin vo uo vcc ucc orig cur (npOf bparts) := by
  have hb35 : Below w3.heap.size w3 w5 := hcl1.2.2.trans (hcl2.2.2.mono hcl1.2.2.size)
  have hb36 : Below w3.heap.size w3 w6 := hb35.trans (hF.below.mono hb35.size)
  have T6 := hT.keep hb36
  have hb16 : Below w1.heap.size w1 w6 := hb13.trans (hb36.mono hb13.size)
  have hb46 : Below w4.heap.size w4 w6 := hcl2.2.2.trans (hF.below.mono hcl2.2.2.size)
  refine ⟨hF.n0, hF.n1, hF.n2, hF.n3, hF.n5, hF.n20, hF.p0, hF.p2, hF.p3, hF.p7, hcl1.1.keep hb46, hcl2.1.keep hF.below, hF.tb, thRow_of_own T6.row, fun t ht => (T6.hold t ht).1, T6.mp, T6.dist, T6.bnd, hnB8, hlen, fun b hb => ?_, fun b hb => cell_keeps hb16 (hBr.done b hb).2, hnB0, npOf_le bparts, t32, b1, b2, fun a ha => Nat.lt_of_lt_of_le (hcl1.2.1 a ha) hb46.size, fun a ha => Nat.lt_of_lt_of_le (hcl2.2.1 a ha) hF.below.size⟩
  obtain ⟨⟨po, c2, h1⟩, _⟩ := hBr.done b hb
  exact ⟨po, c2, cell_keeps hb16 h1⟩
end Go.Proofs.Ybulkkru.cst

import Derived.Test.YbulkkruNet6
import Derived.Test.YbulkkruT38
import Derived.Deep.CutBlock
namespace Go.Proofs.Ybulkkru.cst
open Go.RowKit Go.Proofs Go.Proofs.Ybulkkru.net
set_option linter.unusedVariables false

theorem RowB.kept {w w' : World} {ao : Option Addr} {zs : List Int} {bs : List Nat} (h : RowB w ao zs) (hk : Kept w w' bs) (hbs : ∀ b ∈ bs, w.heap.size ≤ b) : RowB w' ao zs := by
  intro hz
  obtain ⟨b, o, e, hc⟩ := h hz
  exact ⟨b, o, e, fun i hi => ⟨hk.cell (hc i hi).1 (fun hm => by have h1 := hbs _ hm; have h2 : b < w.heap.size := World.block_lt_of_cell? _ _ (hc i hi).1; simp only at h1; omega), (hc i hi).2⟩⟩
theorem RowI.kept' {w w' : World} {ao : Option Addr} {zs : List Int} {bs : List Nat} (h : RowI w ao zs) (hk : Kept w w' bs) (hbs : ∀ b ∈ bs, w.heap.size ≤ b) : RowI w' ao zs := by
  intro hz
  obtain ⟨b, o, e, hc⟩ := h hz
  exact ⟨b, o, e, fun i hi => hk.cell (hc i hi) (fun hm => by have h1 := hbs _ hm; have h2 : b < w.heap.size := World.block_lt_of_cell? _ _ (hc i hi); simp only at h1; omega)⟩
theorem RowH.kept {w w' : World} {ao : Option Addr} {n : Nat} {bs : List Nat} (h : RowH w ao n) (hk : Kept w w' bs) (hbs : ∀ b ∈ bs, w.heap.size ≤ b) : RowH w' ao n := by
  intro hz
  obtain ⟨b, o, e, hc⟩ := h hz
  refine ⟨b, o, e, fun i hi => ?_⟩
  obtain ⟨x, h', c, d, e', hx, c0, c1, c2, c3, c4⟩ := hc i hi
  have hb : b ∉ bs := fun hm => by have h1 := hbs _ hm; have h2 : b < w.heap.size := World.block_lt_of_cell? _ _ c0; omega
  exact ⟨x, h', c, d, e', hx, hk.cell c0 hb, hk.cell c1 hb, hk.cell c2 hb, hk.cell c3 hb, hk.cell c4 hb⟩

theorem own_slice {w : World} {B e sz n : Nat} {v : Value} {xs : List Value} (h : w.ownsRow B e sz v n xs) : ∃ tp cap, v = .slice tp n cap ∧ ((tp = none ∧ n = 0) ∨ ∃ g, tp = some ⟨g, 0, none⟩ ∧ B ≤ g ∧ g < w.heap.size) := by
  have hl := h.lt
  obtain ⟨_, ⟨rfl, rfl⟩ | ⟨g, cap, cur, rfl, hb, hg, _⟩⟩ := h
  · exact ⟨none, 0, rfl, Or.inl ⟨rfl, rfl⟩⟩
  · exact ⟨some ⟨g, 0, none⟩, cap, rfl, Or.inr ⟨g, rfl, hb, (hl g rfl).2⟩⟩
theorem two_alloc (w : World) (A B : Array Value) (s t : TypeId) : Below w.heap.size w ((w.alloc (.cells A s)).alloc (.cells B t)) ∧ ((w.alloc (.cells A s)).alloc (.cells B t)).heap.size = w.heap.size + 2 ∧
    ((w.alloc (.cells A s)).alloc (.cells B t)).heap[w.heap.size]? = some (.cells A s (0, 0)) ∧ ((w.alloc (.cells A s)).alloc (.cells B t)).heap[w.heap.size + 1]? = some (.cells B t (0, 0)) := by
  refine ⟨((Below.refl _ _).alloc (Nat.le_refl _) _).alloc (by simp) _, by simp, (Below.heap_alloc _ _ _ (by simp)).trans (heap_alloc_new _ _), ?_⟩
  have := heap_alloc_new (w.alloc (.cells A s)) (.cells B t)
  simpa using this
theorem set3c {w : World} {B : Nat} {t : TypeId} {a b c : Value} (h : w.heap[B]? = some (.cells #[a, b, c] t (0, 0))) (x y z : Value) :
    (((w.setCell ⟨B, 0, none⟩ x).setCell ⟨B, 1, none⟩ y).setCell ⟨B, 2, none⟩ z).cell? ⟨B, 0, none⟩ = some x ∧ (((w.setCell ⟨B, 0, none⟩ x).setCell ⟨B, 1, none⟩ y).setCell ⟨B, 2, none⟩ z).cell? ⟨B, 1, none⟩ = some y ∧ (((w.setCell ⟨B, 0, none⟩ x).setCell ⟨B, 1, none⟩ y).setCell ⟨B, 2, none⟩ z).cell? ⟨B, 2, none⟩ = some z ∧ Below B w (((w.setCell ⟨B, 0, none⟩ x).setCell ⟨B, 1, none⟩ y).setCell ⟨B, 2, none⟩ z) := by
  have h2 := setcell_block (i := 2) (setcell_block (i := 1) (setcell_block (i := 0) h x) y) z
  simp only [List.setIfInBounds_toArray, List.set_cons_zero, List.set_cons_succ] at h2
  exact ⟨cellAt h2 rfl, cellAt h2 rfl, cellAt h2 rfl, blB (blB (blB (Below.refl B w) (Nat.le_refl _)) (Nat.le_refl _)) (Nat.le_refl _)⟩
theorem mkmap33 (W : World) : (Instr.makeMap 33 none).run Yba.prog W = .ok (.map (some W.heap.size)) (W.alloc (.map #[] 0)) := by
  first | kernel_rfl | simp [Instr.makeMap, go_sem, run_underlying Yba.underlying33]

set_option maxHeartbeats 16000000 in
set_option maxRecDepth 100000 in
theorem lawA_main (topic pin at0 at1 at2 depth : Int) (oo co ho bo : Option Addr) (orig cur bparts : List Int) (nh ocap ccap hcap bcap nb pr gs ks : Nat) (w : World) (b1 : orig.length ≤ 1024) (b2 : cur.length ≤ 1024) (b3 : nh ≤ 1024) (b4 : bparts.length ≤ 1024) (hnb : nb < 256) (hpr : pr < 256) (hgs : gs < 256) (hks : ks < 256)
    (t32 : Is32 topic) (ro : RowI w oo orig) (rc : RowI w co cur) (rh : RowH w ho nh) (rb : RowB w bo bparts) (so : Shp oo orig.length) (sc : Shp co cur.length) :
    Calls Yba.prog 3 #[.int .i32 topic, .int .i32 pin, .slice oo orig.length ocap, .slice co cur.length ccap, .agg #[.int .i64 at0, .int .i64 at1, .int .i64 at2], .slice ho nh hcap, .int .u8 nb, .slice bo bparts.length bcap, .int .u8 pr, .int .i32 depth, .int .u8 gs, .int .u8 ks] w fun e w' => e = .returned (.bool true) ∧ Below w.heap.size w w' := by
  obtain ⟨i32, hi32, hz32, hs32, hb32⟩ := info_parts info32'
  obtain ⟨i21, hi21, hz21, hs21, hb21⟩ := info_parts info21'
  have c1 : ¬ (1024 : Int) < (orig.length : Int) := by omega
  have c2 : ¬ (1024 : Int) < (cur.length : Int) := by omega
  have c3 : ¬ (1024 : Int) < (nh : Int) := by omega
  have c4 : ¬ (1024 : Int) < (bparts.length : Int) := by omega
  obtain ⟨nB, hnB⟩ : ∃ nB : Nat, 1 + nb % 8 = nB := ⟨_, rfl⟩
  have hnB8 : nB ≤ 8 := by omega
  have hnB0 : 0 < nB := by omega
  have hnBI : 1 + (nb : Int) % 8 = (nB : Int) := by omega
  have RO : Hid (RowI w oo orig) := ro
  have RC : Hid (RowI w co cur) := rc
  have RH : Hid (RowH w ho nh) := rh
  have RB : Hid (RowB w bo bparts) := rb
  clear ro rc rh rb
  go_enter Yba.func3, Yba.ntmps3
  go_upto_region 4 with (fail)
  have hbI : Below w.heap.size w (w.alloc (.cells #[.int .i64 at0, .int .i64 at1, .int .i64 at2] 23)) := (Below.refl _ _).alloc (Nat.le_refl _) _
  have hqI : (w.alloc (.cells #[.int .i64 at0, .int .i64 at1, .int .i64 at2] 23)).heap[w.heap.size]? = some (.cells #[.int .i64 at0, .int .i64 at1, .int .i64 at2] 23 (0, 0)) := heap_alloc_new _ _
  generalize w.alloc (.cells #[.int .i64 at0, .int .i64 at1, .int .i64 at2] 23) = wI at hbI hqI ⊢
  have HBI : Hid (Below w.heap.size w wI) := hbI
  have HQI : Hid _ := hqI
  clear hbI hqI c1 c2 c3 c4
  go_upto_region 5 with (at_make; go_loud (refine wpList_make_full _ rfl _ _ 26 rfl wI.heap.size 32 i32 _ 13 Yba.underlying26 hi32 hz32 hs32 _ _ _ _ nB rfl rfl rfl rfl ?b2 ?b3 ?b4 ?_))
  case b2 => rw [hb32]; omega
  case b3 => unfold maxLen; omega
  case b4 => exact Nat.le_refl _
  intro wm hown1 hgrow1
  go_upto_region 6 with (at_make; go_loud (refine wpList_make_full _ rfl _ _ 22 rfl wm.heap.size 21 i21 _ 1 Yba.underlying22 hi21 hz21 hs21 _ _ _ _ nB rfl rfl rfl rfl ?b5 ?b6 ?b7 ?_))
  case b5 => rw [hb21]; omega
  case b6 => unfold maxLen; omega
  case b7 => exact Nat.le_refl _
  intro wn hown2 hgrow2
  obtain ⟨Bk, hBk⟩ : ∃ Bk, wI.heap.size = Bk := ⟨_, rfl⟩
  obtain ⟨Np, hNp⟩ : ∃ Np, wm.heap.size = Np := ⟨_, rfl⟩
  have hltB : Bk < Np := by rw [← hBk, ← hNp]; exact (hown1.lt wI.heap.size rfl).2
  have HB1 : Hid (Brk wn wn Bk Np nB 0 (npOf bparts)) := by
    refine ⟨?_, ?_, fun b hb => absurd hb (by omega), Kept.refl _ _, by omega⟩
    · rw [← hBk]; exact (Room.of_own hown1).of_block (hgrow2.block _ (hown1.lt wI.heap.size rfl).2 (by simp))
    · rw [← hNp]; exact (by simpa using Room.of_own hown2)
  have HBn : Hid (Below wI.heap.size wI wn) := ((Below.refl _ _).grown hgrow1 (Nat.le_refl _) (fun k h => by cases h)).trans ((Below.refl _ _).grown hgrow2 hgrow1.size (fun k h => by cases h))
  have HBwn : Hid (Below w.heap.size w wn) := HBI.out.trans (HBn.out.mono HBI.out.size)
  rw [hBk, hNp]
  clear hown1 hown2 hgrow1 hgrow2
  go_upto_block 0 with (fail)
  refine part1 nB Bk Np bcap bo bparts wn _ _ _ _ rfl rfl rfl rfl rfl rfl rfl hnB8 b4 HB1.out (fun w' hk => ?_) ?_
  · exact RB.out.kept ((Kept.of_below HBwn.out).trans hk) (fun b hb => by have h1 := HBI.out.size; simp only [List.mem_cons, List.not_mem_nil, or_false] at hb; rcases hb with rfl | rfl <;> omega)
  intro a' w1 hS hBr
  obtain ⟨t, df⟩ := a'
  obtain ⟨f, hf, ht⟩ := lit474 t hS.sz
  have hdf : df = [] := hS.df
  subst hdf ht
  have e0 : f 0 = .int .i32 topic := (hf 0).symm.trans hS.s0
  have e1 : f 1 = .int .i32 pin := (hf 1).symm.trans hS.s1
  have e2 : f 2 = .slice oo orig.length ocap := (hf 2).symm.trans hS.s2
  have e3 : f 3 = .slice co cur.length ccap := (hf 3).symm.trans hS.s3
  have e4 : f 4 = .agg #[.int .i64 at0, .int .i64 at1, .int .i64 at2] := (hf 4).symm.trans hS.s4
  have e5 : f 5 = .slice ho nh hcap := (hf 5).symm.trans hS.s5
  have e6 : f 6 = .int .u8 nb := (hf 6).symm.trans hS.s6
  have e7 : f 7 = .slice bo bparts.length bcap := (hf 7).symm.trans hS.s7
  have e8 : f 8 = .int .u8 pr := (hf 8).symm.trans hS.s8
  have e9 : f 9 = .int .i32 depth := (hf 9).symm.trans hS.s9
  have e10 : f 10 = .int .u8 gs := (hf 10).symm.trans hS.s10
  have e11 : f 11 = .int .u8 ks := (hf 11).symm.trans hS.s11
  have e16 : f 16 = .pointer (some ⟨w.heap.size, 0, none⟩) := (hf 16).symm.trans hS.s16
  have e25 : f 25 = .int .i64 nB := (hf 25).symm.trans hS.s25
  have e26 : f 26 = .slice (some ⟨Bk, 0, none⟩) nB nB := (hf 26).symm.trans hS.s26
  have e27 : f 27 = .slice (some ⟨Np, 0, none⟩) nB nB := (hf 27).symm.trans hS.s27
  rw [e0, e1, e2, e3, e4, e5, e6, e7, e8, e9, e10, e11, e16, e25, e26, e27]
  dsimp only
  clear e0 e1 e2 e3 e4 e5 e6 e7 e8 e9 e10 e11 e16 e25 e26 e27 hf hS
  have HBr : Hid (Brk wn w1 Bk Np nB nB (npOf bparts)) := hBr
  have HBw1 : Hid (Below w.heap.size w w1) := HBwn.out.trans (hBr.kept.toBelow (fun b hb => by have h1 := HBI.out.size; simp only [List.mem_cons, List.not_mem_nil, or_false] at hb; rcases hb with rfl | rfl <;> omega) HBwn.out.size)
  clear hBr
  have hmk : ∀ W, (Instr.makeMap 33 none).run Yba.prog W = .ok (.map (some W.heap.size)) (W.alloc (.map #[] 0)) := fun W => mkmap33 W
  go_upto_block 2 with (fail)
  clear hmk
  have HT0 : Hid (ThB ((w1.alloc (.map #[] 0)).alloc (.cells #[.bool false, .bool false, .bool false, .bool false, .bool false, .bool false, .bool false, .bool false] 34)) ((w1.alloc (.map #[] 0)).alloc (.cells #[.bool false, .bool false, .bool false, .bool false, .bool false, .bool false, .bool false, .bool false] 34)) w1.heap.size (w1.heap.size + 1) nB topic (.slice none 0 0) []) := by
    have hq : ((w1.alloc (.map #[] 0)).alloc (.cells #[.bool false, .bool false, .bool false, .bool false, .bool false, .bool false, .bool false, .bool false] 34)).heap[w1.heap.size + 1]? = some (.cells #[.bool false, .bool false, .bool false, .bool false, .bool false, .bool false, .bool false, .bool false] 34 (0, 0)) := by
      have := heap_alloc_new (w1.alloc (.map #[] 0)) (.cells #[.bool false, .bool false, .bool false, .bool false, .bool false, .bool false, .bool false, .bool false] 34)
      simpa using this
    refine ⟨fun b hb => ?_, fun x => freeAt hq, (MapAt.made w1 topic).of_block (Below.heap_alloc _ _ _ (by simp)), World.ownsRow_nil _ _ _ _, (fun t ht => by cases ht), (fun t ht => by cases ht), (fun t ht => by cases ht), Kept.refl _ _, by simp; omega, by simp, by omega⟩
    refine cellAt hq ?_
    have h8 : b = 0 ∨ b = 1 ∨ b = 2 ∨ b = 3 ∨ b = 4 ∨ b = 5 ∨ b = 6 ∨ b = 7 := by omega
    rcases h8 with rfl | rfl | rfl | rfl | rfl | rfl | rfl | rfl <;> rfl
  have HB12 : Hid (Below w1.heap.size w1 ((w1.alloc (.map #[] 0)).alloc (.cells #[.bool false, .bool false, .bool false, .bool false, .bool false, .bool false, .bool false, .bool false] 34))) := ((Below.refl _ _).alloc (Nat.le_refl _) _).alloc (by simp) _
  generalize (w1.alloc (.map #[] 0)).alloc (.cells #[.bool false, .bool false, .bool false, .bool false, .bool false, .bool false, .bool false, .bool false] 34) = w2 at HT0 HB12 ⊢
  obtain ⟨mb, hmb⟩ : ∃ mb, w1.heap.size = mb := ⟨_, rfl⟩
  obtain ⟨Sn, hSn⟩ : ∃ Sn, mb + 1 = Sn := ⟨_, rfl⟩
  rw [hmb, hSn] at HT0
  rw [hmb, hSn]
  have HBw2 : Hid (Below w.heap.size w w2) := HBw1.out.trans (HB12.out.mono HBw1.out.size)
  refine part2 nB mb Sn nh hcap ho topic w2 _ _ _ _ rfl rfl rfl rfl rfl rfl rfl rfl rfl rfl hnB8 hnB0 b3 t32 HT0.out (fun w' hk => ?_) ?_
  · exact RH.out.kept ((Kept.of_below HBw2.out).trans hk) (fun b hb => by have h1 := HBw1.out.size; simp only [List.mem_cons, List.not_mem_nil, or_false] at hb; rcases hb with rfl | rfl <;> omega)
  intro a' w3 tv ths hS htv hlen hT
  obtain ⟨tp, tcap, rfl, htp⟩ := own_slice hT.row
  have HTP : Hid _ := htp
  clear htp
  obtain ⟨t, df⟩ := a'
  obtain ⟨f, hf, ht⟩ := lit474 t hS.sz
  have hdf : df = [] := hS.df
  subst hdf ht
  have e0 : f 0 = .int .i32 topic := (hf 0).symm.trans hS.s0
  have e1 : f 1 = .int .i32 pin := (hf 1).symm.trans hS.s1
  have e2 : f 2 = .slice oo orig.length ocap := (hf 2).symm.trans hS.s2
  have e3 : f 3 = .slice co cur.length ccap := (hf 3).symm.trans hS.s3
  have e4 : f 4 = .agg #[.int .i64 at0, .int .i64 at1, .int .i64 at2] := (hf 4).symm.trans hS.s4
  have e5 : f 5 = .slice ho nh hcap := (hf 5).symm.trans hS.s5
  have e6 : f 6 = .int .u8 nb := (hf 6).symm.trans hS.s6
  have e7 : f 7 = .slice bo bparts.length bcap := (hf 7).symm.trans hS.s7
  have e8 : f 8 = .int .u8 pr := (hf 8).symm.trans hS.s8
  have e9 : f 9 = .int .i32 depth := (hf 9).symm.trans hS.s9
  have e10 : f 10 = .int .u8 gs := (hf 10).symm.trans hS.s10
  have e11 : f 11 = .int .u8 ks := (hf 11).symm.trans hS.s11
  have e16 : f 16 = .pointer (some ⟨w.heap.size, 0, none⟩) := (hf 16).symm.trans hS.s16
  have e25 : f 25 = .int .i64 nB := (hf 25).symm.trans hS.s25
  have e26 : f 26 = .slice (some ⟨Bk, 0, none⟩) nB nB := (hf 26).symm.trans hS.s26
  have e27 : f 27 = .slice (some ⟨Np, 0, none⟩) nB nB := (hf 27).symm.trans hS.s27
  have e30 : f 30 = .map (some mb) := (hf 30).symm.trans hS.s30
  have e32 : f 32 = .slice tp ths.length tcap := (hf 32).symm.trans htv
  rw [e0, e1, e2, e3, e4, e5, e6, e7, e8, e9, e10, e11, e16, e25, e26, e27, e30, e32]
  dsimp only
  clear e0 e1 e2 e3 e4 e5 e6 e7 e8 e9 e10 e11 e16 e25 e26 e27 e30 e32 hf hS htv
  have HT3 : Hid (ThB w2 w3 mb Sn nB topic (.slice tp ths.length tcap) ths) := hT
  have HBw3 : Hid (Below w.heap.size w w3) := HBw2.out.trans (hT.kept.toBelow (fun b hb => by have h1 := HBw1.out.size; simp only [List.mem_cons, List.not_mem_nil, or_false] at hb; rcases hb with rfl | rfl <;> omega) HBw2.out.size)
  have HBr3 : Hid (Below w1.heap.size w1 w3) := HB12.out.trans (hT.kept.toBelow (fun b hb => by simp only [List.mem_cons, List.not_mem_nil, or_false] at hb; rcases hb with rfl | rfl <;> omega) HB12.out.size)
  clear hT HT0
  go_upto_region 28 with (first | (go_at_call 8; refine (clone8_any oo ocap orig _ b1 (RO.out.keep HBw3.out) so).mono ?_; rintro e w4 ⟨vo, vcc, rfl, hcl1⟩; have hb4 : Below w.heap.size w w4 := HBw3.out.trans (hcl1.2.2.mono HBw3.out.size)) | (go_at_call 8; refine (clone8_any co ccap cur _ b2 (RC.out.keep hb4) sc).mono ?_; rintro e w5 ⟨uo, ucc, rfl, hcl2⟩))
  refine net6_tail ?_
  intro w6 hF
  have hb35 : Below w3.heap.size w3 w5 := hcl1.2.2.trans (hcl2.2.2.mono hcl1.2.2.size)
  have hb36 : Below w3.heap.size w3 w6 := hb35.trans (hF.below.mono hb35.size)
  have HN6 : Hid (NetC w6 (w5.heap.size + 1 + 1) w5.heap.size (w5.heap.size + 1) Bk Np mb nB tp tcap ths topic pin vo uo vcc ucc orig cur (npOf bparts)) := NetC.of hF HT3.out HBr.out HBr3.out hcl1 hcl2 hnB8 hnB0 (by omega) t32 b1 b2
  have HBw6 : Hid (Below w.heap.size w w6) := HBw3.out.trans (hb36.mono HBw3.out.size)
  have HBI6 : Hid (Below wI.heap.size wI w6) := by
    have k1 : Below wI.heap.size wI w1 := HBn.out.trans (HBr.out.kept.toBelow (fun b hb => by simp only [List.mem_cons, List.not_mem_nil, or_false] at hb; rcases hb with rfl | rfl <;> omega) HBn.out.size)
    exact (k1.trans ((HBr3.out.trans (hb36.mono HBr3.out.size)).mono k1.size))
  clear hF hb35 hb36 hcl1 hcl2 hb4
  obtain ⟨N, hN⟩ : ∃ N, w5.heap.size + 1 + 1 = N := ⟨_, rfl⟩
  rw [hN] at HN6
  rw [hN]
  have x0 : w6.cell? ⟨w.heap.size, 0, none⟩ = some (.int .i64 at0) := cell_keeps HBI6.out (cellAt HQI.out rfl)
  have x1 : w6.cell? ⟨w.heap.size, 1, none⟩ = some (.int .i64 at1) := cell_keeps HBI6.out (cellAt HQI.out rfl)
  have x2 : w6.cell? ⟨w.heap.size, 2, none⟩ = some (.int .i64 at2) := cell_keeps HBI6.out (cellAt HQI.out rfl)
  go_upto_if 183 with (fail)
  obtain ⟨h7a, h7b, h7c, h7d⟩ := two_alloc w6 #[.int .i64 at0, .int .i64 at1, .int .i64 at2] #[.int .u8 0, .int .i32 0, .int .i32 0] 28 66
  generalize (w6.alloc (.cells #[.int .i64 at0, .int .i64 at1, .int .i64 at2] 28)).alloc (.cells #[.int .u8 0, .int .i32 0, .int .i32 0] 66) = w7 at h7a h7b h7c h7d ⊢
  obtain ⟨At, hAt⟩ : ∃ At, w6.heap.size = At := ⟨_, rfl⟩
  obtain ⟨Gb, hGb⟩ : ∃ Gb, At + 1 = Gb := ⟨_, rfl⟩
  rw [hAt] at h7c
  rw [hAt, hGb] at h7d
  rw [hAt, hGb]
  have HB67 : Hid (Below w6.heap.size w6 w7) := h7a
  have HAt : Hid (w7.heap[At]? = some (.cells #[.int .i64 at0, .int .i64 at1, .int .i64 at2] 28 (0, 0))) := h7c
  have HGb : Hid (w7.heap[Gb]? = some (.cells #[.int .u8 0, .int .i32 0, .int .i32 0] 66 (0, 0))) := h7d
  clear h7a h7b h7c h7d x0 x1 x2
  go_cut [] from 184 to 191 (fun wq => ∃ g0 g1 g2 : Int, wq.cell? ⟨Gb, 0, none⟩ = some (.int .u8 g0) ∧ wq.cell? ⟨Gb, 1, none⟩ = some (.int .i32 g1) ∧ wq.cell? ⟨Gb, 2, none⟩ = some (.int .i32 g2) ∧ Below Gb w7 wq)
  case first =>
    have y0 : w7.cell? ⟨Gb, 0, none⟩ = some (.int .u8 0) := cellAt HGb.out rfl
    have y1 : w7.cell? ⟨Gb, 1, none⟩ = some (.int .i32 0) := cellAt HGb.out rfl
    have y2 : w7.cell? ⟨Gb, 2, none⟩ = some (.int .i32 0) := cellAt HGb.out rfl
    have z0 : w7.frozen? ⟨Gb, 0, none⟩ = false := freeAt HGb.out
    have z1 : w7.frozen? ⟨Gb, 1, none⟩ = false := freeAt HGb.out
    have z2 : w7.frozen? ⟨Gb, 2, none⟩ = false := freeAt HGb.out
    by_cases hg : gs % 2 = 1
    · have hgI : (gs : Int) % 2 = 1 := by omega
      have hgT : (gs : Int).tmod 2 = 1 := by rw [Int.tmod_eq_emod_of_nonneg (by omega)]; exact hgI
      obtain ⟨q, hq⟩ : ∃ q : Nat, gs / 2 = q := ⟨_, rfl⟩
      obtain ⟨r, hr⟩ : ∃ r : Nat, q % nB = r := ⟨_, rfl⟩
      have hrB : r < nB := by rw [← hr]; exact Nat.mod_lt _ hnB0
      have q1 : (gs : Int) / 2 = (q : Int) := by omega
      have q2 : (gs : Int).tdiv 2 = (q : Int) := by rw [Int.tdiv_eq_ediv_of_nonneg (by omega)]; exact q1
      have q3 : (q : Int) % (nB : Int) = (r : Int) := by rw [← hr]; simp
      have q4 : (q : Int).tmod (nB : Int) = (r : Int) := by rw [Int.tmod_eq_emod_of_nonneg (by omega)]; exact q3
      have q5 : IntKind.i32.wrap (r : Int) = r := by rw [IntKind.wrap_i32]; omega
      have q6 : IntKind.u8.wrap (q : Int) = q := by simp [IntKind.wrap, IntKind.signed, IntKind.bits]; omega
      have q7 : IntKind.i64.wrap (q : Int) = q := by rw [IntKind.wrap_i64]; omega
      go_wp2_with fail
      go_meet
      exact ⟨3, topic, r, set3c HGb.out _ _ _⟩
    · have hgI : (gs : Int) % 2 = 0 := by omega
      have hgT : (gs : Int).tmod 2 = 0 := by rw [Int.tmod_eq_emod_of_nonneg (by omega)]; exact hgI
      go_wp2_with fail
      go_meet
      exact ⟨0, 0, 0, y0, y1, y2, Below.refl _ _⟩
  case rest =>
    obtain ⟨g0, g1, g2, gc0, gc1, gc2, hbG⟩ := hcut
    obtain ⟨w8, rfl⟩ : ∃ w8, w8 = wc := ⟨_, rfl⟩
    have HB68 : Hid (Below w6.heap.size w6 w8) := HB67.out.trans (hbG.mono (by omega))
    have HAt8 : Hid (w8.heap[At]? = some (.cells #[.int .i64 at0, .int .i64 at1, .int .i64 at2] 28 (0, 0))) := (hbG.block At (by omega)).trans HAt.out
    have HG8 : Hid (w8.cell? ⟨Gb, 0, none⟩ = some (.int .u8 g0) ∧ w8.cell? ⟨Gb, 1, none⟩ = some (.int .i32 g1) ∧ w8.cell? ⟨Gb, 2, none⟩ = some (.int .i32 g2)) := ⟨gc0, gc1, gc2⟩
    clear gc0 gc1 gc2 hbG
    obtain ⟨i77, hi77, hz77, hs77, hb77⟩ := info_parts info77
    obtain ⟨P, hP⟩ : ∃ P : Nat, pr % 4 = P := ⟨_, rfl⟩
    have hP3 : P ≤ 3 := by omega
    have hPI : (pr : Int) % 4 = (P : Int) := by omega
    have hPT : (pr : Int).tmod 4 = (P : Int) := by rw [Int.tmod_eq_emod_of_nonneg (by omega)]; exact hPI
    go_upto_region 34 with (at_make; go_loud (refine wpList_make_own _ rfl _ _ 59 rfl w8.heap.size 77 i77 _ 13 Yba.underlying59 hi77 hz77 hs77 _ _ _ P rfl rfl rfl ?m1 ?m2 ?m3 ?_))
    case m1 => rw [hb77]; omega
    case m2 => unfold maxLen; omega
    case m3 => exact Nat.le_refl _
    intro w9 hown9 hgrow9
    obtain ⟨Lb, hLb⟩ : ∃ Lb, w8.heap.size = Lb := ⟨_, rfl⟩
    have HO9 : Hid (w9.ownsRow w8.heap.size 77 13 (.slice (some ⟨Lb, 0, none⟩) 0 P) 0 []) := by rw [← hLb]; exact hown9
    have HB89 : Hid (Below w8.heap.size w8 w9) := (Below.refl _ _).grown hgrow9 (Nat.le_refl _) (fun k h => by cases h)
    rw [hLb]
    clear hown9 hgrow9
    go_upto_block 4 with (fail)
    refine part3 P Lb w8 _ _ _ _ rfl rfl rfl rfl rfl hP3 (by omega) HO9.out HB89.out ?_
    intro a' w10 hS h41 hown10 hb810
    rename_i hKc
    refine hKc _ _ ?_
    have b68 := HB68.out
    have b610 : Below w6.heap.size w6 w10 := b68.trans (hb810.mono b68.size)
    have bw10 : Below w.heap.size w w10 := HBw6.out.trans (b610.mono HBw6.out.size)
    obtain ⟨y0, y1, y2⟩ := HG8.out
    exact tail38 topic pin at0 at1 at2 depth g0 g1 g2 N w5.heap.size (w5.heap.size + 1) Bk Np mb nB At Gb P Lb w8.heap.size ks ocap ccap tcap vcc ucc oo co tp vo uo orig cur ths (npOf bparts) w w10 a' hS.sz hS.df hS.s0 hS.s1 hS.s2 hS.s3 hS.s9 hS.s11 hS.s27 hS.s32 hS.s37 hS.s38 hS.s39 hS.s40 h41 hks hP3 (HN6.out.keep b610) (RO.out.keep bw10) (RC.out.keep bw10)
      (cell_keeps hb810 (cellAt HAt8.out rfl)) (cell_keeps hb810 (cellAt HAt8.out rfl)) (cell_keeps hb810 (cellAt HAt8.out rfl)) (cell_keeps hb810 y0) (cell_keeps hb810 y1) (cell_keeps hb810 y2) hown10 bw10
end Go.Proofs.Ybulkkru.cst

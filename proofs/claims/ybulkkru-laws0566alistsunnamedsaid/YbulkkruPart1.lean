import Derived.Test.YbulkkruLit
import Derived.Test.YbulkkruKeyed
import Derived.Test.YbulkkruRowQ
import Derived.Deep.DeepCutAuto
namespace Go.Proofs.Ybulkkru.cst
open Go.RowKit Go.Proofs Go.Proofs.Ybulkkru.net
set_option linter.unusedVariables false

/-- The frame's variables that are kept. -/
structure Same28 (a a' : Act) : Prop where
  sz : a'.tmps.size = 474
  df : a'.defers = []
  s0 : a'.tmps.getD 0 undef = a.tmps.getD 0 undef
  s1 : a'.tmps.getD 1 undef = a.tmps.getD 1 undef
  s2 : a'.tmps.getD 2 undef = a.tmps.getD 2 undef
  s3 : a'.tmps.getD 3 undef = a.tmps.getD 3 undef
  s4 : a'.tmps.getD 4 undef = a.tmps.getD 4 undef
  s5 : a'.tmps.getD 5 undef = a.tmps.getD 5 undef
  s6 : a'.tmps.getD 6 undef = a.tmps.getD 6 undef
  s7 : a'.tmps.getD 7 undef = a.tmps.getD 7 undef
  s8 : a'.tmps.getD 8 undef = a.tmps.getD 8 undef
  s9 : a'.tmps.getD 9 undef = a.tmps.getD 9 undef
  s10 : a'.tmps.getD 10 undef = a.tmps.getD 10 undef
  s11 : a'.tmps.getD 11 undef = a.tmps.getD 11 undef
  s12 : a'.tmps.getD 12 undef = a.tmps.getD 12 undef
  s16 : a'.tmps.getD 16 undef = a.tmps.getD 16 undef
  s24 : a'.tmps.getD 24 undef = a.tmps.getD 24 undef
  s25 : a'.tmps.getD 25 undef = a.tmps.getD 25 undef
  s26 : a'.tmps.getD 26 undef = a.tmps.getD 26 undef
  s27 : a'.tmps.getD 27 undef = a.tmps.getD 27 undef

theorem info32' : (Yba.prog.info? 32).map (fun i => (i.zero, i.size, i.bytes)) = some (some (.agg #[.int .i32 0, .int .i64 0, .int .i64 0, .slice none 0 0, .slice none 0 0, .int .i64 0, .int .i64 0, .int .i64 0, .int .i64 0, .int .i64 0, .int .i64 0, .int .i64 0, .int .i64 0]), 13, 136) := by kernel_rfl
theorem info21' : (Yba.prog.info? 21).map (fun i => (i.zero, i.size, i.bytes)) = some (some (.int .i32 0), 1, 4) := by kernel_rfl

/-- Cells that are there and may be written. -/
structure Room (w : World) (b L : Nat) : Prop where
  there : ∀ x, x < L → ∃ v, w.cell? ⟨b, x, none⟩ = some v
  free : ∀ x, w.frozen? ⟨b, x, none⟩ = false
theorem Room.of_own {w : World} {B e sz b n : Nat} {xs : List Value} (h : w.ownsRow B e sz (.slice (some ⟨b, 0, none⟩) n n) n xs) : Room w b (n * sz) := by
  refine ⟨fun x hx => ?_, fun x => h.frozenAt x⟩
  rw [h.cellAt x hx]
  have := h.1
  exact ⟨_, List.getElem?_eq_getElem (by omega)⟩
theorem Room.of_block {w w' : World} {b L : Nat} (h : Room w b L) (hb : w'.heap[b]? = w.heap[b]?) : Room w' b L :=
  ⟨fun x hx => by obtain ⟨v, hv⟩ := h.there x hx; exact ⟨v, (World.cell?_of_block (a := ⟨b, x, none⟩) hb).trans hv⟩, fun x => (World.frozen?_of_block (a := ⟨b, x, none⟩) hb).trans (h.free x)⟩
theorem Room.lt {w : World} {b L : Nat} (h : Room w b L) (hL : 0 < L) : b < w.heap.size := by
  obtain ⟨v, hv⟩ := h.there 0 hL
  exact World.block_lt_of_cell? _ _ hv
theorem Room.set {w : World} {b L i : Nat} (h : Room w b L) (v : Value) : Room (w.setCell ⟨b, i, none⟩ v) b L := by
  refine ⟨fun x hx => ?_, fun x => by rw [World.frozen?_setCell]; exact h.free x⟩
  obtain ⟨u, hu⟩ := h.there x hx
  by_cases e : i = x
  · subst e; exact ⟨v, World.cell?_setCell_same _ _ _ (by rw [hu])⟩
  · exact ⟨u, by rw [cell_set_ne e]; exact hu⟩

/-- How many partitions broker b holds. -/
def npOf (bparts : List Int) (b : Nat) : Nat := if b < bparts.length then (bparts.getD b 0 % 4).toNat else 0
theorem npOf_le (bparts : List Int) (b : Nat) : npOf bparts b ≤ 3 := by
  unfold npOf
  split
  · have h1 := Int.emod_nonneg (bparts.getD b 0) (show (4 : Int) ≠ 0 by decide)
    have h2 := Int.emod_lt_of_pos (bparts.getD b 0) (show (0 : Int) < 4 by decide)
    omega
  · omega

/-- A slice of bytes that came in. -/
def RowB (w : World) (ao : Option Addr) (zs : List Int) : Prop :=
  zs.length ≠ 0 → ∃ b o, ao = some ⟨b, o, none⟩ ∧ ∀ i, i < zs.length → w.cell? ⟨b, o + i, none⟩ = some (.int .u8 (zs.getD i 0)) ∧ 0 ≤ zs.getD i 0 ∧ zs.getD i 0 ≤ 255
theorem RowB.keep {w w' : World} {B : Nat} {ao : Option Addr} {zs : List Int} (h : RowB w ao zs) (hb : Below w.heap.size w w') : RowB w' ao zs := by
  intro hz
  obtain ⟨b, o, e, hc⟩ := h hz
  exact ⟨b, o, e, fun i hi => ⟨cell_keeps hb (hc i hi).1, (hc i hi).2⟩⟩

/-- The brokers as far as j. -/
structure Brk (w0 w : World) (Bk Np nB j : Nat) (np : Nat → Nat) : Prop where
  bk : Room w Bk (nB * 13)
  nr : Room w Np nB
  done : ∀ b, b < j → (∃ po c2, w.cell? ⟨Bk, b * 13 + 3, none⟩ = some (.slice po (np b) c2)) ∧ w.cell? ⟨Np, b, none⟩ = some (.int .i32 (np b))
  kept : Kept w0 w [Bk, Np]
  ne : Bk ≠ Np

theorem Brk.step {w0 w w1 : World} {Bk Np nB j : Nat} {np : Nat → Nat} (h : Brk w0 w Bk Np nB j np) (hj : j < nB) (hg : w.grownBy w1 none) (po : Option Addr) (c2 : Nat) :
    Brk w0 ((w1.setCell ⟨Bk, j * 13 + 3, none⟩ (.slice po (np j) c2)).setCell ⟨Np, j, none⟩ (.int .i32 (np j))) Bk Np nB (j + 1) np := by
  have b1 : w1.heap[Bk]? = w.heap[Bk]? := hg.block Bk (h.bk.lt (by omega)) (by simp)
  have b2 : w1.heap[Np]? = w.heap[Np]? := hg.block Np (h.nr.lt (by omega)) (by simp)
  have r1 := h.bk.of_block b1
  have r2 := h.nr.of_block b2
  have n1 : ∀ (x y : Nat), (⟨Np, x, none⟩ : Addr) ≠ ⟨Bk, y, none⟩ := fun x y e => h.ne (by injection e with e; exact e.symm)
  refine ⟨?_, ?_, ?_, ?_, h.ne⟩
  · exact (r1.set _).of_block (setcell_other _ h.ne)
  · exact (r2.of_block (setcell_other _ (Ne.symm h.ne))).set _
  · intro b hb
    by_cases e : b = j
    · subst e
      obtain ⟨u, hu⟩ := r1.there (b * 13 + 3) (by omega)
      obtain ⟨v, hv⟩ := r2.there b hj
      refine ⟨⟨po, c2, ?_⟩, ?_⟩
      · rw [World.cell?_setCell_other _ _ _ _ (n1 _ _)]
        exact World.cell?_setCell_same _ _ _ (by rw [hu])
      · exact World.cell?_setCell_same _ _ _ (by rw [World.cell?_setCell_other _ _ _ _ (Ne.symm (n1 _ _)), hv])
    · obtain ⟨⟨po', c2', h1⟩, h2⟩ := h.done b (by omega)
      have h1' := (World.cell?_of_block (a := ⟨Bk, b * 13 + 3, none⟩) b1).trans h1
      have h2' := (World.cell?_of_block (a := ⟨Np, b, none⟩) b2).trans h2
      refine ⟨⟨po', c2', ?_⟩, ?_⟩
      · rw [World.cell?_setCell_other _ _ _ _ (n1 _ _), cell_set_ne (by omega)]; exact h1'
      · rw [cell_set_ne (fun e' => e e'.symm), World.cell?_setCell_other _ _ _ _ (Ne.symm (n1 _ _))]; exact h2'
  · exact ((h.kept.grown hg (fun g e => by cases e)).setCell (Or.inl (by simp)) _).setCell (Or.inl (by simp)) _

set_option maxHeartbeats 8000000 in
set_option maxRecDepth 100000 in
theorem part1 (nB Bk Np bcap : Nat) (bo : Option Addr) (bparts : List Int) (w0 w : World) (a : Act) (K : Act → World → Prop) (Q' : Exit → Act → World → Prop) (hsz : a.tmps.size = 474) (hd : a.defers = []) (h7 : a.tmps.getD 7 undef = .slice bo bparts.length bcap) (h25 : a.tmps.getD 25 undef = .int .i64 nB)
    (h26 : a.tmps.getD 26 undef = .slice (some ⟨Bk, 0, none⟩) nB nB) (h27 : a.tmps.getD 27 undef = .slice (some ⟨Np, 0, none⟩) nB nB) (h28 : a.tmps.getD 28 undef = .int .i64 0) (hnB : nB ≤ 8) (hlb : bparts.length ≤ 1024) (hB : Brk w0 w Bk Np nB 0 (npOf bparts)) (hrow : ∀ w', Kept w0 w' [Bk, Np] → RowB w' bo bparts)
    (hK : ∀ a' w', Same28 a a' → Brk w0 w' Bk Np nB nB (npOf bparts) → K a' w') : Code.wp Yba.prog Bk1 (Exit.then K Q') a w := by
  obtain ⟨i21, hi21, hz21, hs21, hb21⟩ := info_parts info21'
  obtain ⟨t, df⟩ := a
  simp only at hsz hd h7 h25 h26 h27 h28
  subst hd
  obtain ⟨f, hf, rfl⟩ := lit474 t hsz
  rw [hf] at h7 h25 h26 h27 h28
  have HK : Hid _ := hK
  have HB : Hid _ := hB
  have HRo : Hid _ := hrow
  have HF : Hid _ := hf
  clear hK hB hrow hf hsz
  rw [h7, h25, h26, h27, h28]
  conv => arg 2; whnf
  go_wp2_with fail
  go_loopw [28] (fun v wr => ∃ j : Nat, j ≤ nB ∧ v = .int .i64 j ∧ Hid (Brk w0 wr Bk Np nB j (npOf bparts))) (fun v _ => nB - (intOf v).toNat)
  case atStart => exact ⟨0, Nat.zero_le _, rfl, HB⟩
  case round =>
    obtain ⟨j, hj, rfl, HJ⟩ := hrel
    clear HB
    by_cases hlt : j < nB
    · have a0 : (0 : Int) ≤ (j : Int) := by omega
      have a1 : (j : Int) < (nB : Int) := by omega
      obtain ⟨v3, t3⟩ := HJ.out.bk.there (j * 13 + 3) (by omega)
      obtain ⟨v0, t0⟩ := HJ.out.nr.there j hlt
      have z3 := HJ.out.bk.free (j * 13 + 3)
      have z0 := HJ.out.nr.free j
      have hBl : Bk < wr.heap.size := HJ.out.bk.lt (by omega)
      have hNl : Np < wr.heap.size := HJ.out.nr.lt (by omega)
      by_cases hlb2 : j < bparts.length
      · obtain ⟨bb, bf, rfl, hc⟩ := HRo.out wr HJ.out.kept (by omega)
        obtain ⟨c0, r0, r1⟩ := hc j hlb2
        have b0 : (j : Int) < (bparts.length : Int) := by omega
        have HE : Hid (npOf bparts j = (bparts.getD j 0 % 4).toNat) := show _ = _ by unfold npOf; rw [if_pos hlb2]
        obtain ⟨c, hc4⟩ : ∃ c : Nat, bparts.getD j 0 % 4 = (c : Int) := ⟨(bparts.getD j 0 % 4).toNat, by have := Int.emod_nonneg (bparts.getD j 0) (show (4 : Int) ≠ 0 by decide); omega⟩
        have hcc : c < 4 := by have := Int.emod_lt_of_pos (bparts.getD j 0) (show (0 : Int) < 4 by decide); omega
        have HE2 : Hid (npOf bparts j = c) := show _ = _ by rw [HE.out, hc4]; simp
        generalize bparts.getD j 0 = bz at c0 r0 r1 hc4
        clear hc HE
        have e4 : bz.tmod 4 = (c : Int) := by rw [Int.tmod_eq_emod_of_nonneg r0]; exact hc4
        have w4 : IntKind.i32.wrap (c : Int) = c := by rw [IntKind.wrap_i32]; omega
        go_wp2_with (at_make; go_loud (refine wpList_make_full _ rfl _ _ 22 rfl wr.heap.size 21 i21 _ 1 Yba.underlying22 hi21 hz21 hs21 _ _ _ _ c rfl rfl rfl rfl ?b2 ?b3 ?b4 ?_))
        case b2 => rw [hb21]; omega
        case b3 => unfold maxLen; omega
        case b4 => exact Nat.le_refl _
        intro w1 hown hgrow
        have s3 := hgrow.cell t3 (by simp)
        have s0 := hgrow.cell t0 (by simp)
        have y3 := grown_frozen hgrow t3 (by simp) z3
        have y0 := grown_frozen hgrow t0 (by simp) z0
        have hne := HJ.out.ne
        have HS : Hid (Brk w0 ((w1.setCell ⟨Bk, j * 13 + 3, none⟩ (.slice (some ⟨wr.heap.size, 0, none⟩) c c)).setCell ⟨Np, j, none⟩ (.int .i32 c)) Bk Np nB (j + 1) (npOf bparts)) := by
          have h := HJ.out.step hlt hgrow (some ⟨wr.heap.size, 0, none⟩) c
          rw [HE2.out] at h
          exact h
        clear hown hgrow t3 t0 z3 z0
        go_wp2_with fail
        go_roundw
        case rel => exact ⟨j + 1, hlt, by go_num, HS⟩
        case measure => simp [intOf]; omega
      · have b0 : ¬ (j : Int) < (bparts.length : Int) := by omega
        have HE2 : Hid (npOf bparts j = 0) := show _ = _ by unfold npOf; rw [if_neg hlb2]
        have w4 : IntKind.i32.wrap 0 = 0 := by rfl
        go_upto_region 12 with (fail)
        go_wp2_with (at_make; go_loud (refine wpList_make_full _ rfl _ _ 22 rfl wr.heap.size 21 i21 _ 1 Yba.underlying22 hi21 hz21 hs21 _ _ _ _ 0 rfl rfl (by rfl) (by rfl) ?b2 ?b3 ?b4 ?_))
        intro w1 hown hgrow
        have s3 := hgrow.cell t3 (by simp)
        have s0 := hgrow.cell t0 (by simp)
        have y3 := grown_frozen hgrow t3 (by simp) z3
        have y0 := grown_frozen hgrow t0 (by simp) z0
        have hne := HJ.out.ne
        have HS : Hid (Brk w0 ((w1.setCell ⟨Bk, j * 13 + 3, none⟩ (.slice (some ⟨wr.heap.size, 0, none⟩) 0 0)).setCell ⟨Np, j, none⟩ (.int .i32 0)) Bk Np nB (j + 1) (npOf bparts)) := by
          have h := HJ.out.step hlt hgrow (some ⟨wr.heap.size, 0, none⟩) 0
          rw [HE2.out] at h
          exact h
        clear hown hgrow t3 t0 z3 z0
        go_wp2_with fail
        go_roundw
        case rel => exact ⟨j + 1, hlt, by go_num, HS⟩
        case measure => simp [intOf]; omega
    · have hje : j = nB := by omega
      subst hje
      have a1 : ¬ (j : Int) < (j : Int) := by omega
      go_wp2_with fail
      exact HK.out _ _ ⟨rfl, rfl, (HF.out 0).symm, (HF.out 1).symm, (HF.out 2).symm, (HF.out 3).symm, (HF.out 4).symm, (HF.out 5).symm, (HF.out 6).symm, ((HF.out 7).trans h7).symm, (HF.out 8).symm, (HF.out 9).symm, (HF.out 10).symm, (HF.out 11).symm, (HF.out 12).symm, (HF.out 16).symm, (HF.out 24).symm, ((HF.out 25).trans h25).symm, ((HF.out 26).trans h26).symm, ((HF.out 27).trans h27).symm⟩ HJ.out
end Go.Proofs.Ybulkkru.cst

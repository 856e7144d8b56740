import Derived.Test.YbulkkruMove
import Derived.Test.YbulkkruBuildA
import Derived.Deep.DeepCutAuto
namespace Go.Proofs.Ybulkkru.cst
open Go.RowKit Go.Proofs.Ybulkkru.net
set_option linter.unusedVariables false

theorem info28 : (Yba.prog.info? 28).map (fun i => (i.zero, i.size, i.bytes)) = some (some (.agg #[.int .i64 0, .int .i64 0, .int .i64 0]), 3, 24) := by kernel_rfl
theorem info3 : (Yba.prog.info? 3).map (fun i => (i.zero, i.size, i.bytes)) = some (some (.int .i64 0), 1, 8) := by kernel_rfl

/-- A row that is there, all of it free. -/
structure Lies (w : World) (rb L : Nat) : Prop where
  there : ∀ x, x < L → ∃ v, w.cell? ⟨rb, x, none⟩ = some v
  free : ∀ x, w.frozen? ⟨rb, x, none⟩ = false

theorem Lies.made {w : World} {B rb len e s : Nat} {xs : List Value} (h : w.ownsRow B e s (.slice (some ⟨rb, 0, none⟩) len len) len xs) : Lies w rb (len * s) := by
  refine ⟨fun x hx => ?_, fun x => h.frozenAt x⟩
  rw [h.cellAt x hx]
  have := h.1
  exact ⟨_, List.getElem?_eq_getElem (by omega)⟩
theorem Lies.set {w : World} {rb L : Nat} (h : Lies w rb L) (i : Nat) (v : Value) : Lies (w.setCell ⟨rb, i, none⟩ v) rb L :=
  ⟨fun x hx => by obtain ⟨u, hu⟩ := h.there x hx; exact there_set hu, fun x => by rw [World.frozen?_setCell]; exact h.free x⟩
theorem Lies.keep {w w' : World} {rb L : Nat} (h : Lies w rb L) (hL : 0 < L) (hb : Below w.heap.size w w') : Lies w' rb L := by
  obtain ⟨v, hv⟩ := h.there 0 hL
  have hlt : rb < w.heap.size := World.block_lt_of_cell? _ _ hv
  refine ⟨fun x hx => ?_, fun x => ?_⟩
  · obtain ⟨u, hu⟩ := h.there x hx
    exact ⟨u, cell_keeps hb hu⟩
  · rw [← h.free x]; exact World.frozen?_of_block (w := w) (hb.block _ hlt)

/-- The brokers' row, filled up to j. -/
structure BF (w1 wr : World) (Rb k j : Nat) : Prop where
  lies : Lies wr Rb (k * 13)
  done : ∀ q, q < j → wr.cell? ⟨Rb, q * 13 + 5, none⟩ = some (.int .i64 q) ∧ wr.cell? ⟨Rb, q * 13 + 6, none⟩ = some (.int .i64 0) ∧ wr.cell? ⟨Rb, q * 13 + 7, none⟩ = some (.int .i64 0)
  below : Below Rb w1 wr

theorem BF.step {w1 wr : World} {Rb k j : Nat} (h : BF w1 wr Rb k j) (hj : j < k) (x : Value) :
    BF w1 ((((wr.setCell ⟨Rb, j * 13 + 5, none⟩ (.int .i64 j)).setCell ⟨Rb, j * 13 + 6, none⟩ (.int .i64 0)).setCell ⟨Rb, j * 13 + 7, none⟩ (.int .i64 0)).setCell ⟨Rb, j * 13, none⟩ x) Rb k (j + 1) := by
  obtain ⟨v0, h0⟩ := h.lies.there (j * 13 + 5) (by omega)
  obtain ⟨v1, h1⟩ := h.lies.there (j * 13 + 6) (by omega)
  obtain ⟨v2, h2⟩ := h.lies.there (j * 13 + 7) (by omega)
  refine ⟨(((h.lies.set _ _).set _ _).set _ _).set _ _, ?_, (((h.below.setCell (Nat.le_refl _) _).setCell (Nat.le_refl _) _).setCell (Nat.le_refl _) _).setCell (Nat.le_refl _) _⟩
  intro q hq
  by_cases e : q = j
  · subst e
    refine ⟨?_, ?_, ?_⟩
    · rw [cell_set_ne (by omega), cell_set_ne (by omega), cell_set_ne (by omega)]; exact cell_set_eq h0
    · rw [cell_set_ne (by omega), cell_set_ne (by omega)]; exact cell_set_eq (u := v1) (by rw [cell_set_ne (by omega)]; exact h1)
    · rw [cell_set_ne (by omega)]; exact cell_set_eq (u := v2) (by rw [cell_set_ne (by omega), cell_set_ne (by omega)]; exact h2)
  · have hd := h.done q (by omega)
    refine ⟨?_, ?_, ?_⟩
    · rw [cell_set_ne (by omega), cell_set_ne (by omega), cell_set_ne (by omega), cell_set_ne (by omega)]; exact hd.1
    · rw [cell_set_ne (by omega), cell_set_ne (by omega), cell_set_ne (by omega), cell_set_ne (by omega)]; exact hd.2.1
    · rw [cell_set_ne (by omega), cell_set_ne (by omega), cell_set_ne (by omega), cell_set_ne (by omega)]; exact hd.2.2

/-- Three cells of a row have been written. -/
structure Sto (w w' : World) (Rb o L : Nat) (x y z : Value) : Prop where
  at0 : w'.cell? ⟨Rb, o, none⟩ = some x
  at1 : w'.cell? ⟨Rb, o + 1, none⟩ = some y
  at2 : w'.cell? ⟨Rb, o + 2, none⟩ = some z
  other : ∀ a, (a.block ≠ Rb ∨ a.off < o ∨ o + 2 < a.off) → w'.cell? a = w.cell? a
  lies : Lies w' Rb L
  below : ∀ B, B ≤ Rb → Below B w w'

theorem sto3 {w : World} {Rb o L : Nat} (h : Lies w Rb L) (ho : o + 2 < L) (x y z : Value) :
    Sto w (((w.setCell ⟨Rb, o, none⟩ x).setCell ⟨Rb, o + 1, none⟩ y).setCell ⟨Rb, o + 2, none⟩ z) Rb o L x y z := by
  obtain ⟨v0, h0⟩ := h.there o (by omega)
  obtain ⟨v1, h1⟩ := h.there (o + 1) (by omega)
  obtain ⟨v2, h2⟩ := h.there (o + 2) (by omega)
  refine ⟨?_, ?_, ?_, ?_, ((h.set _ _).set _ _).set _ _, fun B hB => (((Below.refl _ _).setCell hB _).setCell hB _).setCell hB _⟩
  · rw [cell_set_ne (by omega), cell_set_ne (by omega)]; exact cell_set_eq h0
  · rw [cell_set_ne (by omega)]; exact cell_set_eq (u := v1) (by rw [cell_set_ne (by omega)]; exact h1)
  · exact cell_set_eq (u := v2) (by rw [cell_set_ne (by omega), cell_set_ne (by omega)]; exact h2)
  · intro a ha
    have ne : ∀ i, o ≤ i → i ≤ o + 2 → a ≠ ⟨Rb, i, none⟩ := by
      intro i h1 h2 e
      subst e
      rcases ha with h | h | h
      · exact h rfl
      · simp at h; omega
      · simp at h; omega
    rw [World.cell?_setCell_other _ _ _ _ (ne _ (by omega) (by omega)).symm, World.cell?_setCell_other _ _ _ _ (ne _ (by omega) (by omega)).symm, World.cell?_setCell_other _ _ _ _ (ne _ (by omega) (by omega)).symm]

/-- What the brokers and the potentials hold. -/
structure Pre (w w' : World) (Rb Qb k b : Nat) (u0 u1 u2 p0 p1 p2 : Int) : Prop where
  ub0 : w'.cell? ⟨Rb, b * 13 + 5, none⟩ = some (.int .i64 u0)
  ub1 : w'.cell? ⟨Rb, b * 13 + 6, none⟩ = some (.int .i64 u1)
  ub2 : w'.cell? ⟨Rb, b * 13 + 7, none⟩ = some (.int .i64 u2)
  fr : ∀ x, w'.frozen? ⟨Rb, x, none⟩ = false
  oth : ∀ q, q < k → q ≠ b → w'.cell? ⟨Rb, q * 13 + 5, none⟩ = some (.int .i64 q) ∧ w'.cell? ⟨Rb, q * 13 + 6, none⟩ = some (.int .i64 0) ∧ w'.cell? ⟨Rb, q * 13 + 7, none⟩ = some (.int .i64 0)
  q0 : w'.cell? ⟨Qb, 0, none⟩ = some (.int .i64 0)
  q1 : w'.cell? ⟨Qb, 1, none⟩ = some (.int .i64 7)
  q2 : w'.cell? ⟨Qb, 2, none⟩ = some (.int .i64 0)
  pq0 : w'.cell? ⟨Qb, (2 + b) * 3, none⟩ = some (.int .i64 p0)
  pq1 : w'.cell? ⟨Qb, (2 + b) * 3 + 1, none⟩ = some (.int .i64 p1)
  pq2 : w'.cell? ⟨Qb, (2 + b) * 3 + 2, none⟩ = some (.int .i64 p2)
  below : Below w.heap.size w w'
  hR : w.heap.size ≤ Rb
  hQR : Qb ≠ Rb

theorem Pre.keep {w w1 w' : World} {Rb Qb k b : Nat} {u0 u1 u2 p0 p1 p2 : Int} (h : Pre w w1 Rb Qb k b u0 u1 u2 p0 p1 p2) (hb : Below w1.heap.size w1 w') : Pre w w' Rb Qb k b u0 u1 u2 p0 p1 p2 where
  ub0 := cell_keeps hb h.ub0
  ub1 := cell_keeps hb h.ub1
  ub2 := cell_keeps hb h.ub2
  fr x := by
    have hlt : Rb < w1.heap.size := World.block_lt_of_cell? _ _ h.ub0
    rw [← h.fr x]
    exact World.frozen?_of_block (w := w1) (hb.block _ hlt)
  oth q hq hn := ⟨cell_keeps hb (h.oth q hq hn).1, cell_keeps hb (h.oth q hq hn).2.1, cell_keeps hb (h.oth q hq hn).2.2⟩
  q0 := cell_keeps hb h.q0
  q1 := cell_keeps hb h.q1
  q2 := cell_keeps hb h.q2
  pq0 := cell_keeps hb h.pq0
  pq1 := cell_keeps hb h.pq1
  pq2 := cell_keeps hb h.pq2
  below := h.below.trans (hb.mono h.below.size)
  hR := h.hR
  hQR := h.hQR

theorem Pre.of {w wr w2 w3 w4 w5 w6 w7 : World} {Rb Qb k b : Nat} {u0 u1 u2 p0 p1 p2 : Int} (hbk : b < k) (hR : w.heap.size ≤ Rb) (hbwr : Below w.heap.size w wr)
    (hd : ∀ q, q < k → wr.cell? ⟨Rb, q * 13 + 5, none⟩ = some (.int .i64 q) ∧ wr.cell? ⟨Rb, q * 13 + 6, none⟩ = some (.int .i64 0) ∧ wr.cell? ⟨Rb, q * 13 + 7, none⟩ = some (.int .i64 0))
    (hb2 : Below wr.heap.size wr w2) (S3 : Sto w2 w3 Rb (b * 13 + 5) (k * 13) (.int .i64 u0) (.int .i64 u1) (.int .i64 u2)) (hQ : w3.heap.size = Qb) (h34 : Below w3.heap.size w3 w4)
    (S5 : Sto w4 w5 Qb 0 ((k + 2) * 3) (.int .i64 0) (.int .i64 7) (.int .i64 0)) (hb6 : Below w5.heap.size w5 w6) (S7 : Sto w6 w7 Qb ((2 + b) * 3) ((k + 2) * 3) (.int .i64 p0) (.int .i64 p1) (.int .i64 p2)) :
    Pre w w7 Rb Qb k b u0 u1 u2 p0 p1 p2 := by
  have h35 : Below w3.heap.size w3 w5 := h34.trans (S5.below _ (by omega))
  have h36 : Below w3.heap.size w3 w6 := h35.trans (hb6.mono h35.size)
  have h37 : Below w3.heap.size w3 w7 := h36.trans (S7.below _ (by omega))
  have h02 : Below w.heap.size w w2 := hbwr.trans (hb2.mono hbwr.size)
  have h03 : Below w.heap.size w w3 := h02.trans (S3.below _ hR)
  have hlt : Rb < w3.heap.size := World.block_lt_of_cell? _ _ S3.at0
  exact
    { ub0 := cell_keeps h37 S3.at0, ub1 := cell_keeps h37 S3.at1, ub2 := cell_keeps h37 S3.at2
      fr := fun x => (S3.lies.keep (by omega) h37).free x
      oth := fun q hq hn => by
        obtain ⟨d0, d1, d2⟩ := hd q hq
        refine ⟨cell_keeps h37 ((S3.other _ (Or.inr ?_)).trans (cell_keeps hb2 d0)), cell_keeps h37 ((S3.other _ (Or.inr ?_)).trans (cell_keeps hb2 d1)), cell_keeps h37 ((S3.other _ (Or.inr ?_)).trans (cell_keeps hb2 d2))⟩ <;> (simp only; omega)
      q0 := (S7.other _ (Or.inr (Or.inl (by simp only; omega)))).trans (cell_keeps hb6 S5.at0)
      q1 := (S7.other _ (Or.inr (Or.inl (by simp only; omega)))).trans (cell_keeps hb6 S5.at1)
      q2 := (S7.other _ (Or.inr (Or.inl (by simp only; omega)))).trans (cell_keeps hb6 S5.at2)
      pq0 := S7.at0, pq1 := S7.at1, pq2 := S7.at2
      below := h03.trans (h37.mono h03.size), hR := hR, hQR := by omega }

/-- What the builder has built. -/
structure BuiltC (w w' : World) (N Rb Qb k b : Nat) (u0 u1 u2 p0 p1 p2 ceil : Int) (uc past : Bool) : Prop where
  pre : Pre w w' Rb Qb k b u0 u1 u2 p0 p1 p2
  n1 : w'.cell? ⟨N, 1, none⟩ = some (.slice (some ⟨Rb, 0, none⟩) k k)
  n4 : w'.cell? ⟨N, 4, none⟩ = some (.slice none 0 0)
  n6 : w'.cell? ⟨N, 6, none⟩ = some (.slice none 0 0)
  n14 : w'.cell? ⟨N, 14, none⟩ = some (.bool past)
  n21 : w'.cell? ⟨N, 21, none⟩ = some (.slice (some ⟨Qb, 0, none⟩) (k + 2) (k + 2))
  nil : uc = false → w'.cell? ⟨N, 11, none⟩ = some (.slice none 0 0)
  some : uc = true → ∃ Cb, w'.cell? ⟨N, 11, none⟩ = some (.slice (some ⟨Cb, 0, none⟩) k k) ∧ w'.cell? ⟨Cb, b, none⟩ = some (.int .i64 ceil)
  hNR : N ≠ Rb

set_option maxHeartbeats 4000000 in
set_option maxRecDepth 100000 in
theorem cbuild_any (nb sel : Nat) (u0 u1 u2 p0 p1 p2 ceil : Int) (uc past : Bool) (w : World) (hnb : nb < 256) (hsel : sel < 256) :
    Calls Yba.prog 19 #[.int .u8 nb, .int .u8 sel, .agg #[.int .i64 u0, .int .i64 u1, .int .i64 u2], .agg #[.int .i64 p0, .int .i64 p1, .int .i64 p2], .bool uc, .int .i64 ceil, .bool past] w fun e w' =>
      ∃ N Rb Qb, e = .returned (.tuple #[.pointer (some ⟨N, 0, none⟩), .int .i64 (sel % (nb % 8 + 1) : Nat)]) ∧ BuiltC w w' N Rb Qb (nb % 8 + 1) (sel % (nb % 8 + 1)) u0 u1 u2 p0 p1 p2 ceil uc past := by
  obtain ⟨i32, hi32, hz32, hs32, hb32⟩ := info_parts info32
  obtain ⟨i28, hi28, hz28, hs28, hb28⟩ := info_parts info28
  obtain ⟨i3, hi3, hz3, hs3, hb3⟩ := info_parts info3
  obtain ⟨k, hk⟩ : ∃ k : Nat, nb % 8 + 1 = k := ⟨_, rfl⟩
  obtain ⟨b, hb⟩ : ∃ b : Nat, sel % k = b := ⟨_, rfl⟩
  rw [hk, hb]
  have hk8 : k ≤ 8 := by omega
  have hbk : b < k := by rw [← hb]; exact Nat.mod_lt _ (by omega)
  have hkI : (nb : Int) % 8 + 1 = (k : Int) := by omega
  have hbI : (sel : Int) % (k : Int) = (b : Int) := by rw [← hb]; simp
  go_enter Yba.func19, Yba.ntmps19
  go_wp2_with (at_make; refine wpList_make_full _ rfl _ _ 26 rfl w.heap.size 32 i32 _ 13 Yba.underlying26 hi32 hz32 hs32 _ _ _ _ k rfl rfl rfl rfl ?b2 ?b3 ?b4 ?_)
  case b2 => rw [hb32]; omega
  case b3 => unfold maxLen; omega
  case b4 => simp; omega
  intro w1 hown1 hgrow1
  have t := two_start w u0 u1 u2 p0 p1 p2 23 23
  obtain ⟨w0, hw0⟩ : ∃ w0, w0 = (w.alloc (.cells #[.int .i64 u0, .int .i64 u1, .int .i64 u2] 23)).alloc (.cells #[.int .i64 p0, .int .i64 p1, .int .i64 p2] 23) := ⟨_, rfl⟩
  have hs0 : w0.heap.size = w.heap.size + 2 := by rw [hw0]; simp
  have hb0 : Below w.heap.size w w0 := by rw [hw0]; exact ((Below.refl _ _).alloc (Nat.le_refl _) _).alloc (by simp) _
  rw [← hw0] at t hgrow1
  obtain ⟨Rb, hRb⟩ : ∃ Rb, w.heap.size + 1 + 1 = Rb := ⟨_, rfl⟩
  have hs0' : w0.heap.size = Rb := by omega
  rw [hRb] at hown1 ⊢
  have hb01 : Below w0.heap.size w0 w1 := (Below.refl _ _).grown hgrow1 (Nat.le_refl _) (fun k h => by cases h)
  have hlies1 : Lies w1 Rb (k * 13) := Lies.made hown1
  have hsz1 := hb01.size
  clear hown1 hgrow1 hkI hbI
  go_wp2
  go_loopw [19, 35] (fun _ v wr => ∃ j : Nat, j ≤ k ∧ v = .int .i64 j ∧ BF w1 wr Rb k j) (fun _ v _ => k - (intOf v).toNat)
  case atStart => exact ⟨0, Nat.zero_le _, rfl, hlies1, fun q hq => absurd hq (by omega), Below.refl _ _⟩
  case round =>
    obtain ⟨j, hj, rfl, hB⟩ := hrel
    by_cases hlt : j < k
    · obtain ⟨v0, t0⟩ := hB.lies.there (j * 13) (by omega)
      obtain ⟨v5, t5⟩ := hB.lies.there (j * 13 + 5) (by omega)
      obtain ⟨v6, t6⟩ := hB.lies.there (j * 13 + 6) (by omega)
      obtain ⟨v7, t7⟩ := hB.lies.there (j * 13 + 7) (by omega)
      have z0 := hB.lies.free (j * 13)
      have z5 := hB.lies.free (j * 13 + 5)
      have z6 := hB.lies.free (j * 13 + 6)
      have z7 := hB.lies.free (j * 13 + 7)
      have a0 : (0 : Int) ≤ (j : Int) := by omega
      have a1 : (j : Int) < (k : Int) := by omega
      go_wp2_with fail
      go_roundw
      case rel => exact ⟨j + 1, by omega, by go_num, hB.step hlt _⟩
      case measure => simp [intOf]; omega
    · have hjk : j = k := by omega
      rw [hjk] at hB ⊢
      have hRb0 : w.heap.size ≤ Rb := by omega
      have hb0r : Below Rb w0 wr := (hs0' ▸ hb01).trans hB.below
      have hbwr : Below w.heap.size w wr := hb0.trans (hb0r.mono hRb0)
      obtain ⟨x0, x1, x2, x3, x4, x5⟩ := t
      have y0 := cell_keeps (hs0'.symm ▸ hb0r) x0
      have y1 := cell_keeps (hs0'.symm ▸ hb0r) x1
      have y2 := cell_keeps (hs0'.symm ▸ hb0r) x2
      have y3 := cell_keeps (hs0'.symm ▸ hb0r) x3
      have y4 := cell_keeps (hs0'.symm ▸ hb0r) x4
      have y5 := cell_keeps (hs0'.symm ▸ hb0r) x5
      clear x0 x1 x2 x3 x4 x5 hlt hjk
      have b0 : (0 : Int) ≤ (b : Int) := by omega
      have b1 : (b : Int) < (k : Int) := by omega
      go_upto_region 11 with (go_at_call 21; refine (cmk_any _ _ _ _).mono ?_; rintro e w2 ⟨rfl, hb2⟩; have hl2 : Lies w2 Rb (k * 13) := hB.lies.keep (by omega) hb2; obtain ⟨v5, t5⟩ := hl2.there (b * 13 + 5) (by omega); obtain ⟨v6, t6⟩ := hl2.there (b * 13 + 6) (by omega); obtain ⟨v7, t7⟩ := hl2.there (b * 13 + 7) (by omega); have z5 := hl2.free (b * 13 + 5); have z6 := hl2.free (b * 13 + 6); have z7 := hl2.free (b * 13 + 7))
      have S3 := sto3 hl2 (show b * 13 + 5 + 2 < k * 13 by omega) (.int .i64 u0) (.int .i64 u1) (.int .i64 u2)
      generalize hw3 : ((w2.setCell ⟨Rb, b * 13 + 5, none⟩ (.int .i64 u0)).setCell ⟨Rb, b * 13 + 6, none⟩ (.int .i64 u1)).setCell ⟨Rb, b * 13 + 7, none⟩ (.int .i64 u2) = w3 at S3 ⊢
      have h02 : Below w.heap.size w w2 := hbwr.trans (hb2.mono hbwr.size)
      have hbw3 : Below w.heap.size w w3 := h02.trans (S3.below _ hRb0)
      have hsw3 := hbw3.size
      have hRb2 : Rb < w3.heap.size := World.block_lt_of_cell? _ _ S3.at0
      have y3' := (S3.other _ (Or.inl (by simp only; omega))).trans (cell_keeps hb2 y3)
      have y4' := (S3.other _ (Or.inl (by simp only; omega))).trans (cell_keeps hb2 y4)
      have y5' := (S3.other _ (Or.inl (by simp only; omega))).trans (cell_keeps hb2 y5)
      have HS3 : Hid (Sto w2 w3 Rb (b * 13 + 5) (k * 13) (.int .i64 u0) (.int .i64 u1) (.int .i64 u2)) := S3
      have HD : Hid (∀ q, q < k → wr.cell? ⟨Rb, q * 13 + 5, none⟩ = some (.int .i64 q) ∧ wr.cell? ⟨Rb, q * 13 + 6, none⟩ = some (.int .i64 0) ∧ wr.cell? ⟨Rb, q * 13 + 7, none⟩ = some (.int .i64 0)) := hB.done
      clear S3 hw3 t5 t6 t7 z5 z6 z7 y0 y1 y2 y3 y4 y5 hl2 hB v5 v6 v7
      go_wp2_with (at_make; refine wpList_make_full _ rfl _ _ 48 rfl w.heap.size 28 i28 _ 3 Yba.underlying48 hi28 hz28 hs28 _ _ _ _ (k + 2) rfl rfl (by omega) (by omega) ?b2q ?b3q ?b4q ?_)
      case b2q => rw [hb28]; omega
      case b3q => unfold maxLen; omega
      case b4q => exact hsw3
      intro w4 hown4 hgrow4
      have h34 : Below w3.heap.size w3 w4 := (Below.refl _ _).grown hgrow4 (Nat.le_refl _) (fun k h => by cases h)
      obtain ⟨Qb, hQb⟩ : ∃ Qb, w3.heap.size = Qb := ⟨_, rfl⟩
      rw [hQb] at hown4 ⊢
      have hl4 : Lies w4 Qb ((k + 2) * 3) := Lies.made hown4
      have y3 := cell_keeps h34 y3'
      have y4 := cell_keeps h34 y4'
      have y5 := cell_keeps h34 y5'
      clear hown4 hgrow4 y3' y4' y5'
      obtain ⟨v0, t0⟩ := hl4.there 0 (by omega)
      obtain ⟨v1, t1⟩ := hl4.there 1 (by omega)
      obtain ⟨v2, t2⟩ := hl4.there 2 (by omega)
      have z0 := hl4.free 0
      have z1 := hl4.free 1
      have z2 := hl4.free 2
      have c1 : (0 : Int) < ((k + 2 : Nat) : Int) := by omega
      go_upto_region 13 with (fail)
      have S5 := sto3 hl4 (show 0 + 2 < (k + 2) * 3 by omega) (.int .i64 0) (.int .i64 7) (.int .i64 0)
      rw [show 0 + 1 = 1 from rfl, show 0 + 2 = 2 from rfl] at S5
      generalize hw5 : ((w4.setCell ⟨Qb, 0, none⟩ (.int .i64 0)).setCell ⟨Qb, 1, none⟩ (.int .i64 7)).setCell ⟨Qb, 2, none⟩ (.int .i64 0) = w5 at S5 ⊢
      have y3' := (S5.other _ (Or.inl (by simp only; omega))).trans y3
      have y4' := (S5.other _ (Or.inl (by simp only; omega))).trans y4
      have y5' := (S5.other _ (Or.inl (by simp only; omega))).trans y5
      have HS5 : Hid (Sto w4 w5 Qb 0 ((k + 2) * 3) (.int .i64 0) (.int .i64 7) (.int .i64 0)) := S5
      have hl5 := S5.lies
      clear S5 hw5 t0 t1 t2 z0 z1 z2 y3 y4 y5 hl4 v0 v1 v2 c1
      have c0 : (0 : Int) ≤ 2 + (b : Int) := by omega
      have c1 : 2 + (b : Int) < ((k + 2 : Nat) : Int) := by omega
      have c2 : (2 + (b : Int)).toNat = 2 + b := by omega
      go_upto_region 14 with (go_at_call 21; refine (cmk_any _ _ _ _).mono ?_; rintro e w6 ⟨rfl, hb6⟩; have hl6 : Lies w6 Qb ((k + 2) * 3) := hl5.keep (by omega) hb6; obtain ⟨v5, t5⟩ := hl6.there ((2 + b) * 3) (by omega); obtain ⟨v6, t6⟩ := hl6.there ((2 + b) * 3 + 1) (by omega); obtain ⟨v7, t7⟩ := hl6.there ((2 + b) * 3 + 2) (by omega); have z5 := hl6.free ((2 + b) * 3); have z6 := hl6.free ((2 + b) * 3 + 1); have z7 := hl6.free ((2 + b) * 3 + 2))
      have S7 := sto3 hl6 (show (2 + b) * 3 + 2 < (k + 2) * 3 by omega) (.int .i64 p0) (.int .i64 p1) (.int .i64 p2)
      generalize hw7 : ((w6.setCell ⟨Qb, (2 + b) * 3, none⟩ (.int .i64 p0)).setCell ⟨Qb, (2 + b) * 3 + 1, none⟩ (.int .i64 p1)).setCell ⟨Qb, (2 + b) * 3 + 2, none⟩ (.int .i64 p2) = w7 at S7 ⊢
      have HP : Pre w w7 Rb Qb k b u0 u1 u2 p0 p1 p2 := Pre.of hbk hRb0 hbwr HD.out hb2 HS3.out hQb h34 HS5.out hb6 S7
      have hR7 : Rb < w7.heap.size := World.block_lt_of_cell? _ _ HP.ub0
      have hw7s := HP.below.size
      clear S7 hw7 t5 t6 t7 z5 z6 z7 hl6 v5 v6 v7 HS3 HS5 HD hb6 hl5 h34 hb2 y3' y4' y5' h02 hbw3 hbwr hb0r c0 c1 c2
      cases uc with
      | false =>
        go_wp2
        go_ret2
        exact ⟨_, _, _, rfl, { pre := HP.keep ((Below.refl _ _).alloc (Nat.le_refl _) _), n1 := World.cell?_alloc_at _ _ _ _ rfl, n4 := World.cell?_alloc_at _ _ _ _ rfl, n6 := World.cell?_alloc_at _ _ _ _ rfl, n14 := World.cell?_alloc_at _ _ _ _ rfl, n21 := World.cell?_alloc_at _ _ _ _ rfl, nil := fun _ => World.cell?_alloc_at _ _ _ _ rfl, some := (fun h => by cases h), hNR := by omega }⟩
      | true =>
        go_wp2_with (at_make; go_loud (refine wpList_make_full _ rfl _ _ 57 rfl w.heap.size 3 i3 _ 1 Yba.underlying57 hi3 hz3 hs3 _ _ _ _ k rfl rfl rfl rfl ?b2c ?b3c ?b4c ?_))
        case b2c => rw [hb3]; omega
        case b3c => unfold maxLen; omega
        case b4c => exact hw7s
        intro w8 hown8 hgrow8
        have h78 : Below w7.heap.size w7 w8 := (Below.refl _ _).grown hgrow8 (Nat.le_refl _) (fun k h => by cases h)
        have hl8 : Lies w8 w7.heap.size (k * 1) := Lies.made hown8
        obtain ⟨v0, t0⟩ := hl8.there b (by omega)
        have z0 := hl8.free b
        have h8s : w7.heap.size < w8.heap.size := World.block_lt_of_cell? _ _ t0
        clear hown8 hgrow8
        go_wp2
        go_ret2
        have h79 : Below w7.heap.size w7 (w8.setCell ⟨w7.heap.size, b, none⟩ (.int .i64 ceil)) := h78.setCell (Nat.le_refl _) _
        have hc9 : (w8.setCell ⟨w7.heap.size, b, none⟩ (.int .i64 ceil)).cell? ⟨w7.heap.size, b, none⟩ = some (.int .i64 ceil) := cell_set_eq t0
        exact ⟨_, _, _, rfl, { pre := (HP.keep h79).keep ((Below.refl _ _).alloc (Nat.le_refl _) _), n1 := World.cell?_alloc_at _ _ _ _ (by simp), n4 := World.cell?_alloc_at _ _ _ _ (by simp), n6 := World.cell?_alloc_at _ _ _ _ (by simp), n14 := World.cell?_alloc_at _ _ _ _ (by simp), n21 := World.cell?_alloc_at _ _ _ _ (by simp), nil := (fun h => by cases h), some := fun _ => ⟨w7.heap.size, World.cell?_alloc_at _ _ _ _ (by simp), cell_keeps ((Below.refl _ _).alloc (Nat.le_refl _) _) hc9⟩, hNR := by simp; omega }⟩

end Go.Proofs.Ybulkkru.cst

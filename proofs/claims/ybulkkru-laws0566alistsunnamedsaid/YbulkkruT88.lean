import Derived.Test.YbulkkruT97
import Derived.Test.YbulkkruPart7
import Derived.Test.YbulkkruSort
import Derived.Test.YbulkkruClone
namespace Go.Proofs.Ybulkkru.cst
open Go.RowKit Go.Proofs Go.Proofs.Ybulkkru.net
open Go.Sort (HoldsK PermIn SortedIn)
set_option linter.unusedVariables false

/-- A row that is owned, sorted. -/
theorem sort_own (B m wcap : Nat) (wp : Option Addr) (W : List Q) (w : World) (h : w.ownsRow B 77 13 (.slice wp m wcap) m (W.flatMap encQ)) (hW : W.length = m) (hm : m ≤ 1024) :
    Calls Yba.prog 12 #[.slice wp m wcap, .func (.func 13) #[] #[]] w fun e w' => e = .returned (.tuple #[]) ∧ ∃ d' row, PermIn 0 m W.toArray d' ∧ SortedIn (fun x y : Q => decide (cmpQ x y < 0)) 0 m d' ∧ w.grownBy w' row ∧ (∀ k, row = some k → B ≤ k ∧ wp = some ⟨k, 0, none⟩) ∧ (0 < m → ∃ wb, wp = some ⟨wb, 0, none⟩ ∧ row = some wb ∧ HoldsK encQ 13 w' wb 0 d') := by
  by_cases h0 : m = 0
  · subst h0
    have e : W = [] := List.eq_nil_of_length_eq_zero hW
    subst e
    refine (sort_none wp wcap w).mono ?_
    rintro e w' ⟨rfl, rfl⟩
    exact ⟨rfl, #[], none, ⟨rfl, fun _ _ => rfl, List.Perm.refl _⟩, fun i j _ _ h => absurd h (by omega), ⟨rfl, rfl, rfl, Nat.le_refl _, fun _ _ _ => rfl⟩, (fun k h => by cases h), (fun h => absurd h (by omega))⟩
  · obtain ⟨g, cap, e, hb, hlt⟩ := own_shape h (by omega)
    injection e with e1 _ e2
    subst e1 e2
    have hH : HoldsK encQ 13 w g 0 W.toArray := by
      have h' : w.ownsRow B 77 13 (.slice (some ⟨g, 0, none⟩) (0 + W.length) wcap) (0 + W.length) (([] ++ W).flatMap encQ) := by rw [Nat.zero_add, hW]; exact h
      simpa using holds_of_own h' rfl
    have hs : (W.toArray).size = m := by simpa using hW
    have := sort_any g 0 wcap W.toArray w hH hlt (by omega)
    rw [hs] at this
    refine this.mono ?_
    rintro e w' ⟨rfl, d', h1, h2, h3⟩
    exact ⟨rfl, d', some g, h1, h2, swk_grown h3, (fun k hk => by injection hk with hk; subst hk; exact ⟨hb, rfl⟩), fun _ => ⟨g, rfl, rfl, h3.holds hlt hH (by rw [h1.1])⟩⟩

theorem holds_blocks {w w' : World} {g : Nat} {d : Array Q} (h : HoldsK encQ 13 w g 0 d) (hb : w'.heap[g]? = w.heap[g]?) : HoldsK encQ 13 w' g 0 d := fun t ht =>
  ⟨(World.cell?_of_block (a := ⟨g, 0 + t, none⟩) hb).trans (h t ht).1, (World.frozen?_of_block (a := ⟨g, 0 + t, none⟩) hb).trans (h t ht).2⟩

theorem QAt.of_block {w w' : World} {g o : Nat} {x : Q} (h : QAt w g o x) (hb : w'.heap[g]? = w.heap[g]?) : QAt w' g o x := fun i hi =>
  (World.cell?_of_block (a := ⟨g, o + i, none⟩) hb).trans (h i hi)
theorem QAt.lt {w : World} {g o : Nat} {x : Q} (h : QAt w g o x) : g < w.heap.size := by
  have h0 := h 0 (by omega)
  exact World.block_lt_of_cell? w ⟨g, o + 0, none⟩ (h0.trans rfl)

set_option maxHeartbeats 8000000 in
set_option maxRecDepth 100000 in
theorem tail88 (B m S lg off gcap wcap : Nat) (wp : Option Addr) (qv : Value) (D : Array Q) (W : List Q) (w0 w : World) (a : Act) (hsz : a.tmps.size = 474) (hd : a.defers = []) (h46 : a.tmps.getD 46 undef = .pointer (some ⟨S, 0, none⟩)) (h48 : a.tmps.getD 48 undef = .slice wp m wcap) (h61 : a.tmps.getD 61 undef = .slice (some ⟨lg, off, none⟩) m gcap)
    (s2 : w.cell? ⟨S, 2, none⟩ = some qv) (hSB : S < B) (hlB : 0 < m → lg < B) (hq : (m = 0 ∧ qv = .slice none 0 0) ∨ (0 < m ∧ ∃ qg qcap, qv = .slice (some ⟨qg, 0, none⟩) 1 qcap ∧ qg < B ∧ QAt w qg 0 D[0]!))
    (hm : m ≤ 1024) (hD : D.size = m) (hW : W.length = m) (hents : ∀ i, i < m → QAt w lg (off + i * 13) D[i]!) (hown : w.ownsRow B 77 13 (.slice wp m wcap) m (W.flatMap encQ)) (hperm : D.toList.Perm W) (hdist : ∀ x ∈ W, ∀ y ∈ W, x.b = y.b → x = y)
    (hB0 : w0.heap.size ≤ B) (hBw : B ≤ w.heap.size) (hB : Below w0.heap.size w0 w) :
    Code.wp Yba.prog C88 (LawPost w0) a w := by
  have key : ∀ w1 w2 w3 g d1 d2 row, w.heap.size ≤ g → g < w1.heap.size → HoldsK encQ 13 w1 g 0 D → Below w.heap.size w w1 → PermIn 0 m D d1 → SortedIn (fun x y : Q => decide (cmpQ x y < 0)) 0 m d1 → SWK encQ 13 w1 g 0 d1 w2 → PermIn 0 m W.toArray d2 → SortedIn (fun x y : Q => decide (cmpQ x y < 0)) 0 m d2 → w2.grownBy w3 row → (∀ k, row = some k → B ≤ k ∧ k < w.heap.size) → (0 < m → ∃ wb, wp = some ⟨wb, 0, none⟩ ∧ row = some wb ∧ HoldsK encQ 13 w3 wb 0 d2) →
      Below B w w3 ∧ ∃ wb, (0 < m → wp = some ⟨wb, 0, none⟩) ∧ ∀ i, i < m → QAt w3 g (i * 13) d1[i]! ∧ QAt w3 wb (i * 13) d1[i]! := by
    intro w1 w2 w3 g d1 d2 row hg1 hg2 hH hb01 p1 s1 sw p2 s2' hgr hrow hwb
    have e12 : d1 = d2 := by
      refine sorted_same (d := D) (e := W.toArray) (by simpa using hperm) (by rw [hD]; exact p1) (by simpa [hW] using p2) (by rw [hD]; exact s1) (by simpa [hW] using s2') ?_
      intro x hx y hy hxy
      exact hdist x (hperm.mem_iff.1 hx) y (hperm.mem_iff.1 hy) hxy
    subst e12
    have hsz1 : d1.size = m := by rw [p1.1, hD]
    have hH2 : HoldsK encQ 13 w2 g 0 d1 := sw.holds hg2 hH p1.1
    have hl12 : w1.heap.size ≤ w2.heap.size := sw.le
    have bw2 : Below w.heap.size w w2 := hb01.trans ((Below.refl _ _).grown (swk_grown sw) hb01.size (fun k h => by injection h with h; omega))
    have bw3 : Below B w w3 := (bw2.mono hBw).trans ((Below.refl _ _).grown hgr (Nat.le_trans hBw bw2.size) (fun k h => (hrow k h).1))
    have hH3 : HoldsK encQ 13 w3 g 0 d1 := holds_blocks hH2 (hgr.block g (by omega) (fun e => by have := (hrow g e.symm).2; omega))
    refine ⟨bw3, ?_⟩
    by_cases h0 : 0 < m
    · obtain ⟨wb, e, _, hw⟩ := hwb h0
      refine ⟨wb, fun _ => e, fun i hi => ?_⟩
      have q1 := qat_holds hH3 (i := i) (by omega)
      have q2 := qat_holds hw (i := i) (by omega)
      rw [Nat.zero_add] at q1 q2
      exact ⟨q1, q2⟩
    · exact ⟨0, fun h => absurd h h0, fun i hi => absurd hi (by omega)⟩
  obtain ⟨t, df⟩ := a
  simp only at hsz hd h46 h48 h61
  subst hd
  obtain ⟨f, hf, rfl⟩ := lit474 t hsz
  rw [hf] at h46 h48 h61
  have HB : Hid (Below w0.heap.size w0 w) := hB
  have HK : Hid _ := key
  have HE : Hid (∀ i, i < m → QAt w lg (off + i * 13) D[i]!) := hents
  have HQ : Hid ((m = 0 ∧ qv = .slice none 0 0) ∨ (0 < m ∧ ∃ qg qcap, qv = .slice (some ⟨qg, 0, none⟩) 1 qcap ∧ qg < B ∧ QAt w qg 0 D[0]!)) := hq
  have HS2 : Hid (w.cell? ⟨S, 2, none⟩ = some qv) := s2
  have HM : Hid (m ≤ 1024 ∧ S < B ∧ (0 < m → lg < B) ∧ B ≤ w.heap.size ∧ w0.heap.size ≤ B) := ⟨hm, hSB, hlB, hBw, hB0⟩
  have hcl := clone11_any lg off gcap D w (by omega) (fun i hi => hents i (by omega))
  rw [hD] at hcl
  clear hB hf hsz key hents hq s2 hm hSB hlB hBw hB0 hperm hdist
  rw [h46, h48, h61]
  show Code.wp Yba.prog C88 (bodyPost Yba.prog Yba.f3 fun e w' => e = .returned (.bool true) ∧ Below w0.heap.size w0 w') _ w
  conv => arg 2; whnf
  go_upto_region 89 with (go_at_call 11; refine hcl.mono ?_; rintro e w1 ⟨g, cc, rfl, hg1, hg2, hH, hb1⟩)
  have HCl : Hid (w.heap.size ≤ g ∧ g < w1.heap.size ∧ HoldsK encQ 13 w1 g 0 D ∧ Below w.heap.size w w1) := ⟨hg1, hg2, hH, hb1⟩
  have hso := sort_any g 0 cc D w1 hH hg2 (by have := HM.out.1; omega)
  rw [hD] at hso
  clear hg1 hg2 hH hb1 hcl
  go_upto_region 90 with (go_at_call 12; refine hso.mono ?_; rintro e w2 ⟨rfl, d1, p1, so1, sw⟩)
  have HS1 : Hid (PermIn 0 m D d1 ∧ SortedIn (fun x y : Q => decide (cmpQ x y < 0)) 0 m d1 ∧ SWK encQ 13 w1 g 0 d1 w2) := ⟨p1, so1, sw⟩
  have bw2 : Below w.heap.size w w2 := HCl.out.2.2.2.trans ((Below.refl _ _).grown (swk_grown sw) HCl.out.2.2.2.size (fun k h => by injection h with h; have := HCl.out.1; omega))
  have hown2 : w2.ownsRow B 77 13 (.slice wp m wcap) m (W.flatMap encQ) := by
    obtain ⟨ha, h2 | ⟨g', cap', cur, e, h3, hg', h5⟩⟩ := hown
    · exact ⟨ha, Or.inl h2⟩
    · exact ⟨ha, Or.inr ⟨g', cap', cur, e, h3, (bw2.block _ (lt_of_block hg')).trans hg', h5⟩⟩
  have hrl : ∀ k, wp = some ⟨k, 0, none⟩ → k < w.heap.size := fun k hk => by
    subst hk
    exact (hown.lt k rfl).2
  have HR : Hid (∀ k, wp = some ⟨k, 0, none⟩ → k < w.heap.size) := hrl
  have hso2 := sort_own B m wcap wp W w2 hown2 hW HM.out.1
  clear p1 so1 sw hso hown hrl bw2 hown2
  go_upto_block 16 with (go_at_call 12; refine hso2.mono ?_; rintro e w3 ⟨rfl, d2, row, p2, so2, hgr, hrow, hwb⟩)
  obtain ⟨bw3, wb, hwp, hqq⟩ := HK.out w1 w2 w3 g d1 d2 row HCl.out.1 HCl.out.2.1 HCl.out.2.2.1 HCl.out.2.2.2 HS1.out.1 HS1.out.2.1 HS1.out.2.2 p2 so2 hgr (fun k hk => ⟨(hrow k hk).1, HR.out k (hrow k hk).2⟩) hwb
  have HB3 : Hid (Below B w w3) := bw3
  clear p2 so2 hgr hrow hwb hso2 bw3
  refine part9 m g wb cc wcap (some ⟨g, 0, none⟩) wp d1 w3 _ _ _ rfl rfl rfl rfl rfl rfl HM.out.1 (fun h => ⟨rfl, hwp h⟩) hqq ?_
  intro a' w4 hS hb4
  rename_i hKc
  refine hKc _ _ ?_
  obtain ⟨hm, hSB, hlB, hBw, hB0⟩ := HM.out
  have b4 : Below B w w4 := HB3.out.trans (hb4.mono (Nat.le_trans hBw HB3.out.size))
  refine tail97 m S lg off gcap wcap (some ⟨lg, off, none⟩) wp qv w0 w4 a' hS.sz hS.df hS.s46 hS.s48 hS.s61 ((World.cell?_of_block (a := ⟨S, 2, none⟩) (b4.block S hSB)).trans HS2.out) ?_ (HB.out.trans (b4.mono hB0))
  rcases HQ.out with ⟨h1, h2⟩ | ⟨h1, qg, qcap, h2, h3, h4⟩
  · exact Or.inl ⟨h1, h2⟩
  · refine Or.inr ⟨h1, qg, qcap, D[0]!, h2, h4.of_block (b4.block qg h3), rfl, ?_⟩
    have := (HE.out 0 h1).of_block (b4.block lg (hlB h1))
    simpa using this
end Go.Proofs.Ybulkkru.cst

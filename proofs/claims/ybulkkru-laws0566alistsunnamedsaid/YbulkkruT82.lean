import Derived.Test.YbulkkruT88
namespace Go.Proofs.Ybulkkru.cst
open Go.RowKit Go.Proofs Go.Proofs.Ybulkkru.net
set_option linter.unusedVariables false

set_option maxHeartbeats 8000000 in
set_option maxRecDepth 100000 in
theorem tail82 (B P m S lg lcap wcap : Nat) (wp : Option Addr) (qv : Value) (D : Array Q) (W : List Q) (w0 w : World) (a : Act) (hsz : a.tmps.size = 474) (hd : a.defers = []) (h40 : a.tmps.getD 40 undef = .int .i64 P) (h46 : a.tmps.getD 46 undef = .pointer (some ⟨S, 0, none⟩)) (h48 : a.tmps.getD 48 undef = .slice wp m wcap)
    (s2 : w.cell? ⟨S, 2, none⟩ = some qv) (s4 : w.cell? ⟨S, 4, none⟩ = some (.slice (some ⟨lg, 0, none⟩) (P + m) lcap)) (hcap : P + m ≤ lcap) (hP : P ≤ 3) (hSB : S < B) (hlB : 0 < m → lg < B) (hq : (m = 0 ∧ qv = .slice none 0 0) ∨ (0 < m ∧ ∃ qg qcap, qv = .slice (some ⟨qg, 0, none⟩) 1 qcap ∧ qg < B ∧ QAt w qg 0 D[0]!))
    (hm : m ≤ 1024) (hD : D.size = m) (hW : W.length = m) (hents : ∀ i, i < m → QAt w lg ((P + i) * 13) D[i]!) (hheap : HeapFrom D 0) (hown : w.ownsRow B 77 13 (.slice wp m wcap) m (W.flatMap encQ)) (hperm : D.toList.Perm W) (hdist : ∀ x ∈ W, ∀ y ∈ W, x.b = y.b → x = y)
    (hB0 : w0.heap.size ≤ B) (hBw : B ≤ w.heap.size) (hB : Below w0.heap.size w0 w) :
    Code.wp Yba.prog C82 (LawPost w0) a w := by
  obtain ⟨off, hoff⟩ : ∃ off : Nat, (if lcap = P then 0 else P * 13) = off := ⟨_, rfl⟩
  have hpp : (if lcap = P then some (⟨lg, 0, none⟩ : Addr) else some ⟨lg, P * 13, none⟩) = some ⟨lg, off, none⟩ := by
    rw [← hoff]
    split <;> rfl
  have hE : ∀ i, i < m → QAt w lg (off + i * 13) D[i]! := fun i hi => by
    rw [← hoff, if_neg (by omega), show P * 13 + i * 13 = (P + i) * 13 by omega]
    exact hents i hi
  have key : ∀ w' a', Below w.heap.size w w' → a'.tmps.size = 474 → a'.defers = [] → a'.tmps.getD 46 undef = .pointer (some ⟨S, 0, none⟩) → a'.tmps.getD 48 undef = .slice wp m wcap → a'.tmps.getD 61 undef = .slice (some ⟨lg, off, none⟩) m (lcap - P) → Code.wp Yba.prog C88 (LawPost w0) a' w' := by
    intro w' a' hb k1 k2 k3 k4 k5
    refine tail88 B m S lg off (lcap - P) wcap wp qv D W w0 w' a' k1 k2 k3 k4 k5 (cell_keeps hb s2) hSB hlB ?_ hm hD hW (fun i hi => (hE i hi).keep hb) ?_ hperm hdist hB0 (Nat.le_trans hBw hb.size) (hB.trans (hb.mono hB.size))
    · rcases hq with h | ⟨h1, qg, qcap, h2, h3, h4⟩
      · exact Or.inl h
      · exact Or.inr ⟨h1, qg, qcap, h2, h3, h4.keep hb⟩
    · obtain ⟨ha, h2 | ⟨g', cap', cur, e, h3, hg', h5⟩⟩ := hown
      · exact ⟨ha, Or.inl h2⟩
      · exact ⟨ha, Or.inr ⟨g', cap', cur, e, h3, (hb.block _ (lt_of_block hg')).trans hg', h5⟩⟩
  obtain ⟨t, df⟩ := a
  simp only at hsz hd h40 h46 h48
  subst hd
  obtain ⟨f, hf, rfl⟩ := lit474 t hsz
  rw [hf] at h40 h46 h48
  have HKy : Hid _ := key
  have HE : Hid (∀ i, i < m → QAt w lg (off + i * 13) D[i]!) := hE
  have HH : Hid (HeapFrom D 0) := hheap
  have HM : Hid (m ≤ 1024 ∧ D.size = m) := ⟨hm, hD⟩
  have i0 : (0 : Int) ≤ (P : Int) := by omega
  have i1 : (P : Int) ≤ (P : Int) + (m : Int) := by omega
  have i2 : (P : Int) + (m : Int) ≤ (lcap : Int) := by omega
  have i3 : P + m - P = m := by omega
  have i4 : ((P : Int) + (m : Int)).toNat = P + m := by omega
  clear hB hf hsz key hents hq s2 hSB hlB hBw hB0 hperm hdist hown hE hheap hcap hW hD hoff
  rw [h40, h46, h48]
  show Code.wp Yba.prog C82 (bodyPost Yba.prog Yba.f3 fun e w' => e = .returned (.bool true) ∧ Below w0.heap.size w0 w') _ w
  conv => arg 2; whnf
  go_upto_block 14 with (fail)
  refine part8 m lg off (lcap - P) (some ⟨lg, off, none⟩) D w _ _ _ rfl rfl ?_ rfl HM.out.1 HM.out.2 (fun _ => rfl) HE.out HH.out ?_
  · first | rfl | (show Value.slice _ _ _ = _; simp only [hpp, i3])
  intro a' w' hS hb
  rename_i hKc
  refine hKc _ _ ?_
  refine HKy.out w' a' hb hS.sz hS.df hS.s46 hS.s48 (hS.s61.trans ?_)
  first | rfl | (show Value.slice _ _ _ = _; simp only [hpp, i3])
end Go.Proofs.Ybulkkru.cst

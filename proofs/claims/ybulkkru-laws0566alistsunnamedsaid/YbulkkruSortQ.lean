import Derived.Test.YbulkkruHeap
import Derived.Sort.Statements
namespace Go.Proofs.Ybulkkru.cst
open Go.Sort (SWO PermIn SortedIn)
set_option linter.unusedVariables false

theorem swoQ : SWO (fun x y : Q => decide (cmpQ x y < 0)) where
  irrefl x := by have := cmpQ_neg x x; simp; omega
  trans x y z h k := by
    simp at h k ⊢
    have h1 := cmpQ_trans (x := x) (y := y) (z := z) (by omega) (by omega)
    rcases Int.lt_or_eq_of_le h1 with h2 | h2
    · exact h2
    · have h3 : cmpQ z x ≤ 0 := by have := cmpQ_neg x z; omega
      have h4 := cmpQ_trans (x := y) (y := z) (z := x) (by omega) h3
      have := cmpQ_neg x y
      omega
  ntrans x y z h k := by
    simp at h k ⊢
    have h1 : cmpQ z y ≤ 0 := by have := cmpQ_neg y z; omega
    have h2 : cmpQ y x ≤ 0 := by have := cmpQ_neg x y; omega
    have h3 := cmpQ_trans h1 h2
    have := cmpQ_neg x z
    omega

theorem sorted_pairwise {d : Array Q} (h : SortedIn (fun x y : Q => decide (cmpQ x y < 0)) 0 d.size d) : d.toList.Pairwise (fun x y => cmpQ x y ≤ 0) := by
  rw [List.pairwise_iff_getElem]
  intro i j hi hj hij
  have hi' : i < d.size := by simpa using hi
  have hj' : j < d.size := by simpa using hj
  have := h i j (Nat.zero_le _) hij hj'
  simp [getElem!_pos, hi', hj'] at this
  have e := cmpQ_neg d[i] d[j]
  simp
  omega

/-- Two rows of the same entries, no two of one broker, both sorted: the same row. -/
theorem sorted_same {d e d' e' : Array Q} (hp : d.toList.Perm e.toList) (hd : PermIn 0 d.size d d') (he : PermIn 0 e.size e e') (sd : SortedIn (fun x y : Q => decide (cmpQ x y < 0)) 0 d.size d') (se : SortedIn (fun x y : Q => decide (cmpQ x y < 0)) 0 e.size e')
    (hb : ∀ x ∈ d.toList, ∀ y ∈ d.toList, x.b = y.b → x = y) : d' = e' := by
  obtain ⟨s1, _, p1⟩ := hd
  obtain ⟨s2, _, p2⟩ := he
  have q1 : d'.toList.Perm d.toList := by
    have e1 : d'.extract 0 d.size = d' := by rw [← s1]; simp
    have e2 : d.extract 0 d.size = d := by simp
    rw [e1, e2] at p1; exact p1
  have q2 : e'.toList.Perm e.toList := by
    have e1 : e'.extract 0 e.size = e' := by rw [← s2]; simp
    have e2 : e.extract 0 e.size = e := by simp
    rw [e1, e2] at p2; exact p2
  have hpp : d'.toList.Perm e'.toList := q1.trans (hp.trans q2.symm)
  rw [← s1] at sd
  rw [← s2] at se
  have : d'.toList = e'.toList := by
    refine List.Perm.eq_of_pairwise (le := fun x y => cmpQ x y ≤ 0) ?_ (sorted_pairwise sd) (sorted_pairwise se) hpp
    intro x y hx hy h1 h2
    have hx' := q1.mem_iff.1 hx
    have hy' := hp.mem_iff.2 (q2.mem_iff.1 hy)
    refine hb x hx' y hy' (cmpQ_zero ?_)
    have := cmpQ_neg x y
    omega
  exact Array.toList_inj.1 this

end Go.Proofs.Ybulkkru.cst

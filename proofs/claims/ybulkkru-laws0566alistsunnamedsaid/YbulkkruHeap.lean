import Derived.Test.YbulkkruQord
namespace Go.Proofs.Ybulkkru.cst
set_option linter.unusedVariables false

/-- The child that the sift looks at. -/
def kid (d : Array Q) (i : Nat) : Nat := if 2 * i + 2 < d.size ∧ cmpQ d[2 * i + 2]! d[2 * i + 1]! < 0 then 2 * i + 2 else 2 * i + 1

/-- 'queue.down'. -/
def downF : Nat → Array Q → Nat → Array Q
  | 0, d, _ => d
  | f + 1, d, i => if d.size ≤ 2 * i + 1 then d else if 0 ≤ cmpQ d[kid d i]! d[i]! then d else downF f (d.swapIfInBounds i (kid d i)) (kid d i)

def HeapFrom (d : Array Q) (s : Nat) : Prop := ∀ p c, s ≤ p → (c = 2 * p + 1 ∨ c = 2 * p + 2) → c < d.size → cmpQ d[p]! d[c]! ≤ 0

structure Hp (d : Array Q) (s i : Nat) : Prop where
  ok : ∀ p c, s ≤ p → p ≠ i → (c = 2 * p + 1 ∨ c = 2 * p + 2) → c < d.size → cmpQ d[p]! d[c]! ≤ 0
  up : ∀ p c, s ≤ p → (i = 2 * p + 1 ∨ i = 2 * p + 2) → (c = 2 * i + 1 ∨ c = 2 * i + 2) → c < d.size → cmpQ d[p]! d[c]! ≤ 0

theorem kid_lt {d : Array Q} {i : Nat} (h : ¬ d.size ≤ 2 * i + 1) : kid d i < d.size ∧ (kid d i = 2 * i + 1 ∨ kid d i = 2 * i + 2) := by
  unfold kid
  split
  · omega
  · omega

theorem kid_le {d : Array Q} {i c : Nat} (hc : c = 2 * i + 1 ∨ c = 2 * i + 2) (hl : c < d.size) : cmpQ d[kid d i]! d[c]! ≤ 0 := by
  have self : ∀ x : Q, cmpQ x x ≤ 0 := fun x => by have := cmpQ_neg x x; omega
  unfold kid
  split
  · rename_i h
    rcases hc with rfl | rfl
    · omega
    · exact self _
  · rename_i h
    rcases hc with rfl | rfl
    · exact self _
    · have h' : ¬ cmpQ d[2 * i + 2]! d[2 * i + 1]! < 0 := fun k => h ⟨hl, k⟩
      have := cmpQ_neg d[2 * i + 1]! d[2 * i + 2]!
      omega

theorem swap_get (d : Array Q) (i k j : Nat) (hi : i < d.size) (hk : k < d.size) : (d.swapIfInBounds i k)[j]! = if j = i then d[k]! else if j = k then d[i]! else d[j]! := by
  by_cases hj : j < d.size
  · by_cases e1 : j = i
    · subst e1
      simp [Array.swapIfInBounds, hi, hk, getElem!_pos]
    · by_cases e2 : j = k
      · subst e2
        simp [Array.swapIfInBounds, hi, hk, getElem!_pos, e1]
      · simp [Array.swapIfInBounds, hi, hk, hj, getElem!_pos, e1, e2]
  · have e1 : j ≠ i := by omega
    have e2 : j ≠ k := by omega
    simp [Array.swapIfInBounds, hi, hk, getElem!_neg, hj, e1, e2]

theorem downF_size : ∀ (f : Nat) (d : Array Q) (i : Nat), (downF f d i).size = d.size
  | 0, _, _ => rfl
  | f + 1, d, i => by
    unfold downF
    split
    · rfl
    · split
      · rfl
      · rw [downF_size f]; simp

theorem downF_perm : ∀ (f : Nat) (d : Array Q) (i : Nat), (downF f d i).toList.Perm d.toList
  | 0, _, _ => List.Perm.refl _
  | f + 1, d, i => by
    unfold downF
    split
    · exact List.Perm.refl _
    · split
      · exact List.Perm.refl _
      · rename_i h _
        refine (downF_perm f _ _).trans ?_
        have hk := kid_lt h
        simp only [Array.swapIfInBounds, show i < d.size by omega, hk.1, dif_pos]
        exact Array.perm_iff_toList_perm.1 (Array.swap_perm _ _)

theorem downF_heap : ∀ (f : Nat) (d : Array Q) (s i : Nat), Hp d s i → s ≤ i → i < d.size → d.size ≤ i + f → HeapFrom (downF f d i) s
  | 0, d, s, i, h, hs, hi, hf => by omega
  | f + 1, d, s, i, h, hs, hi, hf => by
    unfold downF
    split
    · rename_i hn
      intro p c hp hc hl
      exact h.ok p c hp (by omega) hc hl
    · rename_i hn
      obtain ⟨hk, hkc⟩ := kid_lt hn
      split
      · rename_i hg
        intro p c hp hc hl
        by_cases e : p = i
        · subst e
          have h1 := kid_le hc hl
          have h2 : cmpQ d[p]! d[kid d p]! ≤ 0 := by have := cmpQ_neg d[p]! d[kid d p]!; omega
          exact cmpQ_trans h2 h1
        · exact h.ok p c hp e hc hl
      · rename_i hg
        refine downF_heap f _ s (kid d i) ?_ (by omega) (by simpa using hk) (by simp; omega)
        have hgt : cmpQ d[kid d i]! d[i]! ≤ 0 := by omega
        have kne : kid d i ≠ i := by omega
        constructor
        · intro p c hp hpk hc hl
          have hl' : c < d.size := by simpa using hl
          rw [swap_get _ _ _ _ hi hk, swap_get _ _ _ _ hi hk]
          by_cases e : p = i
          · subst e
            have cne : c ≠ p := by omega
            rw [if_pos rfl, if_neg cne]
            by_cases e2 : c = kid d p
            · rw [if_pos e2]; exact hgt
            · rw [if_neg e2]; exact kid_le hc hl'
          · rw [if_neg e, if_neg hpk]
            by_cases e2 : c = i
            · rw [if_pos e2]
              exact h.up p _ hp (by omega) hkc hk
            · rw [if_neg e2, if_neg (by omega)]
              exact h.ok p c hp e hc hl'
        · intro p c hp hpk hc hl
          have hl' : c < d.size := by simpa using hl
          have e : p = i := by omega
          rw [swap_get _ _ _ _ hi hk, swap_get _ _ _ _ hi hk, if_pos e, if_neg (by omega), if_neg (by omega)]
          exact h.ok _ c (by omega) kne hc hl'

/-- 'queue.init', from place n - 1 down. -/
def initF : Nat → Array Q → Array Q
  | 0, d => d
  | n + 1, d => initF n (downF d.size d n)

theorem initF_size : ∀ (n : Nat) (d : Array Q), (initF n d).size = d.size
  | 0, _ => rfl
  | n + 1, d => by rw [initF, initF_size n, downF_size]
theorem initF_perm : ∀ (n : Nat) (d : Array Q), (initF n d).toList.Perm d.toList
  | 0, _ => List.Perm.refl _
  | n + 1, d => (initF_perm n _).trans (downF_perm _ _ _)
theorem initF_heap : ∀ (n : Nat) (d : Array Q), n ≤ d.size → HeapFrom d n → HeapFrom (initF n d) 0
  | 0, d, _, h => h
  | n + 1, d, hn, h => by
    rw [initF]
    refine initF_heap n _ (by rw [downF_size]; omega) (downF_heap _ d n n ⟨fun p c hp hne hc hl => h p c (by omega) hc hl, fun p c hp hi hc hl => by omega⟩ (Nat.le_refl _) (by omega) (by omega))
theorem init_heap (d : Array Q) : HeapFrom (initF (d.size / 2) d) 0 :=
  initF_heap _ d (by omega) (fun p c hp hc hl => by omega)

end Go.Proofs.Ybulkkru.cst

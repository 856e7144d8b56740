import Derived.Test.YbulkkruRowQ
import Derived.Test.YbulkkruNamed
import Derived.Test.YbulkkruPush
import Derived.Test.YbulkkruPart1
import Derived.Shelf.SlicesE.Clone
import Derived.Shelf.Lay
import Derived.Ground.SlgnProg
namespace Go.Proofs
open Go.Shelf Go.RowKit Go.Lib
shelf_lay_g SlLaysE0.n41 Slgn 41 at Yba 8 as Yba.cloneI
shelf_lay_g SlLaysE0.n41 Slgn 41 at Yba 11 as Yba.cloneQ
end Go.Proofs
namespace Go.Proofs.Ybulkkru.cst
open Go.RowKit Go.Proofs Go.Proofs.Ybulkkru.net
open Go.Sort (HoldsK)
open Go.Shelf Go.Lib
set_option linter.unusedVariables false

def Shp (ao : Option Addr) (n : Nat) : Prop := (ao = none ∧ n = 0) ∨ ∃ b o, ao = some ⟨b, o, none⟩

/-- What 'slices.Clone' of a row of int32 leaves. -/
def Cloned (w w' : World) (vo : Option Addr) (zs : List Int) : Prop := RowI w' vo zs ∧ (∀ a, vo = some a → a.block < w'.heap.size) ∧ Below w.heap.size w w'

set_option maxRecDepth 100000 in
theorem clone8_any (ao : Option Addr) (cap : Nat) (zs : List Int) (w : World) (hl : zs.length ≤ 1024) (hz : RowI w ao zs) (hs : Shp ao zs.length) :
    Calls Yba.prog 8 #[.slice ao zs.length cap] w fun e w' => ∃ vo cc, e = .returned (.slice vo zs.length cc) ∧ Cloned w w' vo zs := by
  rcases hs with ⟨rfl, h0⟩ | ⟨b, o, rfl⟩
  · rw [h0]
    refine (AnyE.slices_Clone_nil Yba.cloneI 0 cap w).mono ?_
    rintro e w' ⟨rfl, rfl⟩
    exact ⟨none, 0, rfl, fun h => absurd h0 h, (fun a h => by cases h), Below.refl _ _⟩
  · obtain ⟨i, hi, hz0, hsz, hbt⟩ := info_parts info21'
    have hc : ∀ j u, (zs.map (Value.int .i32))[j]? = some u → w.cell? ⟨b, o + j, none⟩ = some u := by
      intro j u hj
      have hjl : j < zs.length := by
        rcases Nat.lt_or_ge j zs.length with h | h
        · exact h
        · rw [List.getElem?_eq_none (by simpa using h)] at hj; cases hj
      obtain ⟨b', o', e, hcell⟩ := hz (by omega)
      injection e with e
      injection e with e1 e2
      subst e1 e2
      rw [hcell j hjl]
      rw [List.getElem?_eq_getElem (by simpa using hjl)] at hj
      rw [← hj]
      simp [List.getD_eq_getElem?_getD, List.getElem?_eq_getElem hjl]
    refine (AnyE.slices_Clone Yba.cloneI i _ 1 4 hi hz0 hsz hbt rfl (by omega) Yba.sizeOf21 b o zs.length cap (zs.map (Value.int .i32)) w (by simp) (by unfold maxLen; omega) (by omega) hc (fun u hu => by obtain ⟨x, _, rfl⟩ := List.mem_map.1 hu; rfl)).mono ?_
    rintro e w' ⟨v', rfl, ho, hne, hb⟩
    by_cases h0 : zs.length = 0
    · have hlt := ho.lt
      obtain ⟨_, ⟨h2, _⟩ | ⟨g, cap', cur, rfl, h3, _⟩⟩ := ho
      · exact absurd h2 hne
      · exact ⟨some ⟨g, 0, none⟩, cap', rfl, fun h => absurd h0 h, (fun a h => by injection h with h; subst h; exact (hlt g rfl).2), hb⟩
    · obtain ⟨g, cap', rfl, _, h3⟩ := own_shape ho (by omega)
      refine ⟨some ⟨g, 0, none⟩, cap', rfl, fun _ => ⟨g, 0, rfl, fun j hj => ?_⟩, (fun a h => by injection h with h; subst h; exact h3), hb⟩
      rw [Nat.zero_add, ho.cellAt j (by omega), List.getElem?_eq_getElem (by simpa using hj)]
      simp [List.getD_eq_getElem?_getD, List.getElem?_eq_getElem hj]

set_option maxRecDepth 100000 in
theorem clone11_any (b o cap : Nat) (d : Array Q) (w : World) (hl : d.size ≤ 1024) (hz : ∀ i, i < d.size → QAt w b (o + i * 13) d[i]!) :
    Calls Yba.prog 11 #[.slice (some ⟨b, o, none⟩) d.size cap] w fun e w' => ∃ g cc, e = .returned (.slice (some ⟨g, 0, none⟩) d.size cc) ∧ w.heap.size ≤ g ∧ g < w'.heap.size ∧ HoldsK encQ 13 w' g 0 d ∧ Below w.heap.size w w' := by
  obtain ⟨i, hi, hz0, hsz, hbt⟩ := info_parts info77
  have hlen : (d.toList.flatMap encQ).length = d.size * 13 := by rw [flat_len]; simp
  have hc : ∀ j u, (d.toList.flatMap encQ)[j]? = some u → w.cell? ⟨b, o + j, none⟩ = some u := by
    intro j u hj
    have hjl : j < d.size * 13 := by
      rcases Nat.lt_or_ge j (d.size * 13) with h | h
      · exact h
      · rw [List.getElem?_eq_none (by omega)] at hj; cases hj
    have e : j = j / 13 * 13 + j % 13 := by omega
    have hq := hz (j / 13) (by omega) (j % 13) (Nat.mod_lt _ (by omega))
    rw [show o + j / 13 * 13 + j % 13 = o + j by omega] at hq
    rw [hq, ← hj, e, flat_get _ _ _ (Nat.mod_lt _ (by omega)) (by simp; omega), show (j / 13 * 13 + j % 13) / 13 = j / 13 by omega, show (j / 13 * 13 + j % 13) % 13 = j % 13 by omega]
    congr 2
    rw [List.getD_eq_getElem?_getD, getElem!_pos d (j / 13) (by omega)]
    simp [show j / 13 < d.size by omega]
  refine (AnyE.slices_Clone Yba.cloneQ i _ 13 64 hi hz0 hsz hbt rfl (by omega) Yba.sizeOf77 b o d.size cap (d.toList.flatMap encQ) w hlen (by unfold maxLen; omega) (by omega) hc (fun u hu => by obtain ⟨x, _, hx⟩ := List.mem_flatMap.1 hu; exact encQ_one x u hx)).mono ?_
  rintro e w' ⟨v', rfl, ho, hne, hb⟩
  obtain ⟨h1, ⟨h2, _⟩ | ⟨g, cap', cur, rfl, h3, h4⟩⟩ := ho
  · exact absurd h2 hne
  · have ho' : w'.ownsRow w.heap.size 77 13 (.slice (some ⟨g, 0, none⟩) d.size cap') d.size (d.toList.flatMap encQ) := ⟨h1, Or.inr ⟨g, cap', cur, rfl, h3, h4⟩⟩
    refine ⟨g, cap', rfl, h3, (ho'.lt g rfl).2, ?_, hb⟩
    have := holds_of_own (P := 0) (pre := []) (W := d.toList) (w := w') (b1 := w.heap.size) (g := g) (cap := cap') (by simpa using ho') rfl
    simpa using this
end Go.Proofs.Ybulkkru.cst

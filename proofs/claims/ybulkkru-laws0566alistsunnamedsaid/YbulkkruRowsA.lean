import Derived.Test.YbulkkruClone
import Derived.Test.YbulkkruPart2
import Derived.OpenShut
import Derived.ShutString
import Derived.ChangeOld
import Derived.Below
import Derived.Deep.Slices
import Derived.Deep.SlicePairs
namespace Go.Proofs.Ybulkkru.cst
open Go.ChangeShapes Go.WideShapes Go.ChangeAt Go.RowKit Go.Deep
set_option linter.unusedVariables false

theorem plainAddr {w : World} {a : Addr} {v : Value} (h : w.cell? (a.add 0) = some v) : ∃ b off, a = ⟨b, off, none⟩ := by
  obtain ⟨b, off, spot⟩ := a
  have hspot : spot = none := by simpa [Addr.add] using World.cell?_spot h
  subst hspot
  exact ⟨b, off, rfl⟩
theorem mapRange {α : Type} (n : Nat) (f : Nat → α) (d : α) (i : Nat) (h : i < n) : ((List.range n).map f).getD i d = f i := by simp [List.getD, h]

set_option maxRecDepth 100000 in
theorem shp_of {W : World} {r : Reach} {b0 : Nat} {a : Option Addr} {len cap : Nat} (h : Value.okWide Yba.prog W r b0 22 (.slice a len cap)) : Shp a len := by
  cases a with
  | none =>
    simp only [Value.okWide, Yba.underlying22, Cell.okWide, Cell.ok] at h
    split at h <;> simp_all [Shp]
  | some a =>
    simp only [Value.okWide, Yba.underlying22, Cell.okWide, Cell.ok] at h
    obtain ⟨_, _, _, hs, _⟩ := h
    obtain ⟨b, o, s⟩ := a
    simp only at hs
    subst hs
    exact Or.inr ⟨b, o, rfl⟩

theorem rowI_in {H : Type} {enc : TypeId × Value → H} {W : World} {a : Option Addr} {len cap : Nat} {d : DataW H} {p : List MemPlace}
    (h : DataW.Trod enc Yba.prog W 0 (fun _ => true) true 22 (.slice a len cap) d p) : len ≤ maxLen ∧ ∃ Z : List Int, Z.length = len ∧ RowI W a Z := by
  obtain ⟨fuel, hf⟩ := h
  rcases open_slice1 Yba.underlying22 (by kernel_rfl) hf with ⟨h0, _⟩ | ⟨a', len', cap', m, n, V, D, Pl, h0, _, hl, hm, hmm, _, hx⟩
  · simp [Value.cells] at h0
    obtain ⟨rfl, rfl, rfl⟩ := h0
    exact ⟨Nat.zero_le _, [], rfl, fun h => absurd rfl h⟩
  · simp [Value.cells] at h0
    obtain ⟨rfl, rfl, rfl⟩ := h0
    have hmm' : m = cap := by simpa using hmm
    subst hmm'
    obtain ⟨f, hf⟩ := choose_lt (α := Int) (n := len) (p := fun i y => W.cell? (a'.add i) = some (.int .i32 y)) (fun i hi => by
      obtain ⟨e0, t0⟩ := hx i (by omega)
      obtain ⟨n0, q0, _, w0⟩ := DataW.trod_int Yba.underlying21 t0
      simp at q0
      rw [q0] at e0
      exact ⟨n0, e0⟩)
    refine ⟨by omega, (List.range len).map f, by simp, fun hpos => ?_⟩
    have hpos' : len ≠ 0 := by simpa using hpos
    obtain ⟨b, off, rfl⟩ := plainAddr (hf 0 (by omega))
    refine ⟨b, off, rfl, fun j hj => ?_⟩
    have hj' : j < len := by simpa using hj
    rw [mapRange _ _ _ _ hj']
    have e0 := hf j hj'
    rw [Go.WideShapes.add_plain] at e0
    exact e0

theorem rowB_in {H : Type} {enc : TypeId × Value → H} {W : World} {a : Option Addr} {len cap : Nat} {d : DataW H} {p : List MemPlace}
    (h : DataW.Trod enc Yba.prog W 0 (fun _ => true) true 25 (.slice a len cap) d p) : len ≤ maxLen ∧ ∃ Z : List Int, Z.length = len ∧ RowB W a Z := by
  obtain ⟨fuel, hf⟩ := h
  rcases open_slice1 Yba.underlying25 (by kernel_rfl) hf with ⟨h0, _⟩ | ⟨a', len', cap', m, n, V, D, Pl, h0, _, hl, hm, hmm, _, hx⟩
  · simp [Value.cells] at h0
    obtain ⟨rfl, rfl, rfl⟩ := h0
    exact ⟨Nat.zero_le _, [], rfl, fun h => absurd rfl h⟩
  · simp [Value.cells] at h0
    obtain ⟨rfl, rfl, rfl⟩ := h0
    have hmm' : m = cap := by simpa using hmm
    subst hmm'
    obtain ⟨f, hf⟩ := choose_lt (α := Int) (n := len) (p := fun i y => W.cell? (a'.add i) = some (.int .u8 y) ∧ 0 ≤ y ∧ y ≤ 255) (fun i hi => by
      obtain ⟨e0, t0⟩ := hx i (by omega)
      obtain ⟨n0, q0, _, w0⟩ := DataW.trod_int Yba.underlying5 t0
      simp at q0
      rw [q0] at e0
      exact ⟨n0, e0, bounds_u8 w0⟩)
    refine ⟨by omega, (List.range len).map f, by simp, fun hpos => ?_⟩
    have hpos' : len ≠ 0 := by simpa using hpos
    obtain ⟨b, off, rfl⟩ := plainAddr (hf 0 (by omega)).1
    refine ⟨b, off, rfl, fun j hj => ?_⟩
    have hj' : j < len := by simpa using hj
    rw [mapRange _ _ _ _ hj']
    obtain ⟨e0, b0⟩ := hf j hj'
    rw [Go.WideShapes.add_plain] at e0
    exact ⟨e0, b0⟩

set_option maxRecDepth 100000 in
theorem rowH_in {H : Type} {enc : TypeId × Value → H} {W : World} {a : Option Addr} {len cap : Nat} {d : DataW H} {p : List MemPlace}
    (h : DataW.Trod enc Yba.prog W 0 (fun _ => true) true 24 (.slice a len cap) d p) : len ≤ maxLen ∧ RowH W a len := by
  obtain ⟨fuel, hf⟩ := h
  rcases open_slice Yba.underlying24 hf with ⟨h0, _⟩ | ⟨a', len', cap', m, n, DD, Pl, h0, _, hl, hm, hmm, _, hx⟩
  · simp [Value.cells] at h0
    obtain ⟨rfl, rfl, rfl⟩ := h0
    exact ⟨Nat.zero_le _, fun h => absurd rfl h⟩
  · simp [Value.cells] at h0
    obtain ⟨rfl, rfl, rfl⟩ := h0
    have hmm' : m = cap := by simpa using hmm
    subst hmm'
    have ce : Yba.prog.cellsOf 37 = 5 := by kernel_rfl
    have key : ∀ i, i < len → ∃ (x : Nat) (h c d e : Int), x ≤ 255 ∧ W.cell? (a'.add (i * 5)) = some (.int .u8 x) ∧ W.cell? (a'.add (i * 5 + 1)) = some (.int .i64 h) ∧ W.cell? (a'.add (i * 5 + 2)) = some (.int .i64 c) ∧ W.cell? (a'.add (i * 5 + 3)) = some (.int .i64 d) ∧ W.cell? (a'.add (i * 5 + 4)) = some (.int .i64 e) := by
      intro i hi
      obtain ⟨cs', h1, h2⟩ := hx i (by omega)
      rw [ce] at h1
      obtain ⟨_, hlen, hcell⟩ := World.cells?_some h1
      obtain ⟨xs, k, hk, hxy, _, hxl, hf⟩ := DataW.trod_struct Yba.underlying37 h2
      match cs', hlen with
      | [v0, v1, v2, v3, v4], _ =>
        have g0 := hf 0 _ rfl
        have g1 := hf 1 _ rfl
        have g2 := hf 2 _ rfl
        have g3 := hf 3 _ rfl
        have g4 := hf 4 _ rfl
        match xs, hxl with
        | [y0, y1, y2, y3, y4], _ =>
          have c5 : Yba.prog.cellsOf 5 = 1 := by kernel_rfl
          have c3 : Yba.prog.cellsOf 3 = 1 := by kernel_rfl
          simp [c5, c3] at g0 g1 g2 g3 g4
          have e0 := hcell 0 (by omega)
          have e1 := hcell 1 (by omega)
          have e2 := hcell 2 (by omega)
          have e3 := hcell 3 (by omega)
          have e4 := hcell 4 (by omega)
          rw [add_add] at e0 e1 e2 e3 e4
          obtain ⟨n0, q0, _, w0⟩ := DataW.trod_int Yba.underlying5 g0
          obtain ⟨n1, q1, _, _⟩ := DataW.trod_int Yba.underlying3 g1
          obtain ⟨n2, q2, _, _⟩ := DataW.trod_int Yba.underlying3 g2
          obtain ⟨n3, q3, _, _⟩ := DataW.trod_int Yba.underlying3 g3
          obtain ⟨n4, q4, _, _⟩ := DataW.trod_int Yba.underlying3 g4
          simp at q0 q1 q2 q3 q4
          subst q0 q1 q2 q3 q4
          obtain ⟨b0, b1⟩ := bounds_u8 w0
          obtain ⟨x, rfl⟩ : ∃ x : Nat, n0 = (x : Int) := ⟨n0.toNat, by omega⟩
          exact ⟨x, n1, n2, n3, n4, by omega, by simpa using e0, by simpa using e1, by simpa using e2, by simpa using e3, by simpa using e4⟩
    refine ⟨by omega, fun hpos => ?_⟩
    obtain ⟨x, _, _, _, _, _, c0, _⟩ := key 0 (by omega)
    obtain ⟨b, off, rfl⟩ := plainAddr (by simpa using c0)
    refine ⟨b, off, rfl, fun i hi => ?_⟩
    obtain ⟨x, h', c, d', e, hx, c0, c1, c2, c3, c4⟩ := key i hi
    rw [Go.WideShapes.add_plain] at c0 c1 c2 c3 c4
    rw [← Nat.add_assoc] at c1 c2 c3 c4
    exact ⟨x, h', c, d', e, hx, c0, c1, c2, c3, c4⟩
end Go.Proofs.Ybulkkru.cst

import Derived.Test.YbulkkruFill
import Derived.OpenShut
import Derived.ShutString
import Derived.ChangeOld
import Derived.Below
import Derived.Deep.Slices
import Derived.Deep.SlicePairs
namespace Go.Proofs.Ybulkkru.net
open Go.ChangeShapes Go.WideShapes Go.ChangeAt Go.RowKit Go.Deep
set_option linter.unusedVariables false

theorem plain_addr {w : World} {a : Addr} {v : Value} (h : w.cell? (a.add 0) = some v) : ∃ b off, a = ⟨b, off, none⟩ := by
  obtain ⟨b, off, spot⟩ := a
  have hspot : spot = none := by simpa [Addr.add] using World.cell?_spot h
  subst hspot
  exact ⟨b, off, rfl⟩

theorem map_range_getD {α : Type} (n : Nat) (f : Nat → α) (d : α) (i : Nat) (h : i < n) : ((List.range n).map f).getD i d = f i := by simp [List.getD, h]

theorem flowIn_of {H : Type} {enc : TypeId × Value → H} {W : World} {fuel : Nat} {v : Value} {x : DataW H × List MemPlace} (h : DataW.trod enc Yba.prog W 0 (fun _ => true) true fuel 93 [v] = some x) :
    ∃ (ro : Option Addr) (rcap : Nat) (F : List RackD), v = .slice ro F.length rcap ∧ F.length ≤ maxLen ∧ FlowIn W ro F := by
  rcases open_slice_pairs Yba.underlying93 Yba.underlying133 (by kernel_rfl) rfl rfl (by kernel_rfl) (by kernel_rfl) h with ⟨h0, _⟩ | ⟨a, len, cap, m, n, V0, V1, D0, D1, P0, P1, h0, _, hl, hm, hmm, _, hx⟩
  · simp at h0
    exact ⟨none, 0, [], by simpa using h0, Nat.zero_le _, fun h => absurd h (by simp)⟩
  · simp at h0
    subst h0
    have hmm' : m = cap := by simpa using hmm
    subst hmm'
    obtain ⟨f, hf⟩ := choose_lt (α := Int × Int) (n := len) (p := fun i y => W.cell? (a.add (i * 2)) = some (.int .u8 y.1) ∧ W.cell? (a.add (i * 2 + 1)) = some (.int .i8 y.2) ∧ (0 ≤ y.1 ∧ y.1 ≤ 255) ∧ (-128 ≤ y.2 ∧ y.2 ≤ 127)) (fun i hi => by
      obtain ⟨e0, e1, t0, t1⟩ := hx i (by omega)
      obtain ⟨n0, q0, _, w0⟩ := DataW.trod_int Yba.underlying5 t0
      obtain ⟨n1, q1, _, w1⟩ := DataW.trod_int Yba.underlying75 t1
      simp at q0 q1
      rw [q0] at e0
      rw [q1] at e1
      exact ⟨(n0, n1), e0, e1, bounds_u8 w0, bounds_i8 w1⟩)
    refine ⟨some a, m, (List.range len).map f, by simp, by simp; omega, fun hpos => ?_⟩
    have hpos' : 0 < len := by simpa using hpos
    obtain ⟨b, off, rfl⟩ := plain_addr (by have := (hf 0 hpos').1; simpa using this)
    refine ⟨b, off, rfl, fun j hj => ?_⟩
    have hj' : j < len := by simpa using hj
    rw [map_range_getD _ _ _ _ hj']
    obtain ⟨e0, e1, b0, b1⟩ := hf j hj'
    rw [Go.WideShapes.add_plain] at e0 e1
    exact ⟨e0, by rw [← Nat.add_assoc] at e1; exact e1, b0, b1⟩

theorem bytesIn_of {H : Type} {enc : TypeId × Value → H} {W : World} {fuel : Nat} {v : Value} {x : DataW H × List MemPlace} (h : DataW.trod enc Yba.prog W 0 (fun _ => true) true fuel 25 [v] = some x) :
    ∃ (ro : Option Addr) (rcap : Nat) (L : List Int), v = .slice ro L.length rcap ∧ L.length ≤ maxLen ∧ BytesIn W ro L := by
  rcases open_slice1 Yba.underlying25 (by kernel_rfl) h with ⟨h0, _⟩ | ⟨a, len, cap, m, n, V, D, Pl, h0, _, hl, hm, hmm, _, hx⟩
  · simp at h0
    exact ⟨none, 0, [], by simpa using h0, Nat.zero_le _, fun h => absurd h (by simp)⟩
  · simp at h0
    subst h0
    have hmm' : m = cap := by simpa using hmm
    subst hmm'
    obtain ⟨f, hf⟩ := choose_lt (α := Int) (n := len) (p := fun i y => W.cell? (a.add i) = some (.int .u8 y) ∧ 0 ≤ y ∧ y ≤ 255) (fun i hi => by
      obtain ⟨e0, t0⟩ := hx i (by omega)
      obtain ⟨n0, q0, _, w0⟩ := DataW.trod_int Yba.underlying5 t0
      simp at q0
      rw [q0] at e0
      exact ⟨n0, e0, bounds_u8 w0⟩)
    refine ⟨some a, m, (List.range len).map f, by simp, by simp; omega, fun hpos => ?_⟩
    have hpos' : 0 < len := by simpa using hpos
    obtain ⟨b, off, rfl⟩ := plain_addr (hf 0 hpos').1
    refine ⟨b, off, rfl, fun j hj => ?_⟩
    have hj' : j < len := by simpa using hj
    rw [map_range_getD _ _ _ _ hj']
    obtain ⟨e0, b0⟩ := hf j hj'
    rw [Go.WideShapes.add_plain] at e0
    exact ⟨e0, b0⟩

theorem broksIn_of {H : Type} {enc : TypeId × Value → H} {W : World} {a : Option Addr} {len cap : Nat} {d : DataW H} {p : List MemPlace}
    (h : DataW.Trod enc Yba.prog W 0 (fun _ => true) true 92 (.slice a len cap) d p) : len ≤ maxLen ∧ ∃ E : List BrokD, E.length = len ∧ BroksIn W a E := by
  obtain ⟨fuel, hf⟩ := h
  rcases open_slice_pairs Yba.underlying92 Yba.underlying97 (by kernel_rfl) rfl rfl (by kernel_rfl) (by kernel_rfl) hf with ⟨h0, _⟩ | ⟨a', len', cap', m, n, V0, V1, D0, D1, P0, P1, h0, _, hl, hm, hmm, _, hx⟩
  · simp [Value.cells] at h0
    obtain ⟨rfl, rfl, rfl⟩ := h0
    exact ⟨Nat.zero_le _, [], rfl, fun h => absurd h (by simp)⟩
  · simp [Value.cells] at h0
    obtain ⟨rfl, rfl, rfl⟩ := h0
    have hmm' : m = cap := by simpa using hmm
    subst hmm'
    obtain ⟨f, hf⟩ := choose_lt (α := Int × List Int) (n := len) (p := fun i y => W.cell? (a'.add (i * 2)) = some (.int .u8 y.1) ∧ (0 ≤ y.1 ∧ y.1 ≤ 255) ∧ ∃ ro rcap, W.cell? (a'.add (i * 2 + 1)) = some (.slice ro y.2.length rcap) ∧ BytesIn W ro y.2) (fun i hi => by
      obtain ⟨e0, e1, t0, t1⟩ := hx i (by omega)
      obtain ⟨n0, q0, _, w0⟩ := DataW.trod_int Yba.underlying5 t0
      obtain ⟨ro, rcap, L, q1, _, hL⟩ := bytesIn_of t1
      simp at q0
      rw [q0] at e0
      rw [q1] at e1
      exact ⟨(n0, L), e0, bounds_u8 w0, ro, rcap, e1, hL⟩)
    refine ⟨by omega, (List.range len).map f, by simp, fun hpos => ?_⟩
    have hpos' : 0 < len := by simpa using hpos
    obtain ⟨b, off, rfl⟩ := plain_addr (by have := (hf 0 hpos').1; simpa using this)
    refine ⟨b, off, rfl, fun j hj => ?_⟩
    have hj' : j < len := by simpa using hj
    rw [brokOf, map_range_getD _ _ _ _ hj']
    obtain ⟨e0, b0, ro, rcap, e1, hL⟩ := hf j hj'
    rw [Go.WideShapes.add_plain] at e0 e1
    exact ⟨e0, b0, ro, rcap, by rw [← Nat.add_assoc] at e1; exact e1, hL⟩

set_option maxRecDepth 100000 in
theorem partsIn_of {H : Type} {enc : TypeId × Value → H} {W : World} {a : Option Addr} {len cap : Nat} {d : DataW H} {p : List MemPlace}
    (h : DataW.Trod enc Yba.prog W 0 (fun _ => true) true 91 (.slice a len cap) d p) : len ≤ maxLen ∧ ∃ D : List PartD, D.length = len ∧ PartsIn W a D := by
  obtain ⟨fuel, hf⟩ := h
  rcases open_slice Yba.underlying91 hf with ⟨h0, _⟩ | ⟨a', len', cap', m, n, DD, Pl, h0, _, hl, hm, hmm, _, hx⟩
  · simp [Value.cells] at h0
    obtain ⟨rfl, rfl, rfl⟩ := h0
    exact ⟨Nat.zero_le _, [], rfl, fun h => absurd h (by simp)⟩
  · simp [Value.cells] at h0
    obtain ⟨rfl, rfl, rfl⟩ := h0
    have hmm' : m = cap := by simpa using hmm
    subst hmm'
    have ce : Yba.prog.cellsOf 95 = 3 := by kernel_rfl
    obtain ⟨f, hf⟩ := choose_lt (α := Int × Int × List RackD) (n := len) (p := fun i y => W.cell? (a'.add (i * 3)) = some (.int .u8 y.1) ∧ W.cell? (a'.add (i * 3 + 1)) = some (.int .i8 y.2.1) ∧ (0 ≤ y.1 ∧ y.1 ≤ 255) ∧ (-128 ≤ y.2.1 ∧ y.2.1 ≤ 127) ∧
        ∃ ro rcap, W.cell? (a'.add (i * 3 + 2)) = some (.slice ro y.2.2.length rcap) ∧ FlowIn W ro y.2.2) (fun i hi => by
      obtain ⟨cs', h1, h2⟩ := hx i (by omega)
      rw [ce] at h1
      obtain ⟨_, hlen, hcell⟩ := World.cells?_some h1
      obtain ⟨xs, k, hk, hxy, _, hxl, hf⟩ := DataW.trod_struct Yba.underlying95 h2
      match cs', hlen with
      | [v0, v1, v2], _ =>
        have g0 := hf 0 _ rfl
        have g1 := hf 1 _ rfl
        have g2 := hf 2 _ rfl
        match xs, hxl with
        | [y0, y1, y2], _ =>
          have c5 : Yba.prog.cellsOf 5 = 1 := by kernel_rfl
          have c75 : Yba.prog.cellsOf 75 = 1 := by kernel_rfl
          have c93 : Yba.prog.cellsOf 93 = 1 := by kernel_rfl
          simp [c5, c75, c93] at g0 g1 g2
          have e0 := hcell 0 (by omega)
          have e1 := hcell 1 (by omega)
          have e2 := hcell 2 (by omega)
          rw [add_add] at e0 e1 e2
          obtain ⟨n0, q0, _, w0⟩ := DataW.trod_int Yba.underlying5 g0
          obtain ⟨n1, q1, _, w1⟩ := DataW.trod_int Yba.underlying75 g1
          obtain ⟨ro, rcap, F, q2, _, hF⟩ := flowIn_of g2
          simp at q0 q1
          subst q0
          subst q1
          subst q2
          exact ⟨(n0, n1, F), by simpa using e0, by simpa using e1, bounds_u8 w0, bounds_i8 w1, ro, rcap, by simpa using e2, hF⟩)
    refine ⟨by omega, (List.range len).map f, by simp, fun hpos => ?_⟩
    have hpos' : 0 < len := by simpa using hpos
    obtain ⟨b, off, rfl⟩ := plain_addr (by have := (hf 0 hpos').1; simpa using this)
    refine ⟨b, off, rfl, fun j hj => ?_⟩
    have hj' : j < len := by simpa using hj
    rw [partOf, map_range_getD _ _ _ _ hj']
    obtain ⟨e0, e1, b0, b1, ro, rcap, e2, hL⟩ := hf j hj'
    rw [Go.WideShapes.add_plain] at e0 e1 e2
    exact ⟨e0, by rw [← Nat.add_assoc] at e1; exact e1, b0, b1, ro, rcap, by rw [← Nat.add_assoc] at e2; exact e2, hL⟩

end Go.Proofs.Ybulkkru.net

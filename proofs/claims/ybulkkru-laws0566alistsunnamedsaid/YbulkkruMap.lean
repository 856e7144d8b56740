import Derived.Test.YbulkkruQdef
import Derived.Maps.Own
import Derived.DeepKeys4
namespace Go.Proofs.Ybulkkru.cst
open Go.RowKit Go.Proofs Go.Proofs.Ybulkkru.net
open Go.MapKept Go.Maps Go.ChangeMaps
set_option linter.unusedVariables false

theorem laid42 : laidOutB Yba.prog = true := by kernel_rfl
theorem row42 : 42 < Yba.prog.types.size := by
  have h : decide (42 < Yba.prog.types.size) = true := by kernel_rfl
  exact of_decide_eq_true h
theorem keyed42 : Keyed Yba.prog 42 := Keyed.of_law (deep_law_laid laid42 (m := 2) (by omega) row42 (by kernel_rfl) (by kernel_rfl))

/-- The key of the holding of topic t on broker b. -/
def hkey (t b : Int) : Value := .agg #[.int .i32 t, .int .i32 b]

def Is32 (a : Int) : Prop := -2147483648 ≤ a ∧ a ≤ 2147483647

theorem wf32 {a : Int} (h : Is32 a) : (Lit.int .i32 a).wf = true := by
  obtain ⟨h1, h2⟩ := h
  have e1 : IntKind.i32.min = -2147483648 := rfl
  have e2 : IntKind.i32.max = 2147483647 := rfl
  simp only [Lit.wf, e1, e2, Bool.and_eq_true, decide_eq_true_eq]
  exact ⟨h1, h2⟩

theorem keyOf42 {t b : Int} (ht : Is32 t) (hb : Is32 b) : ∃ l, keyOf Yba.prog 42 (hkey t b) = some l := by
  have w1 := wf32 ht
  have w2 := wf32 hb
  have k1 : Yba.prog.keyType 42 = true := by kernel_rfl
  have c1 : Yba.prog.cellsOf 42 = 2 := by kernel_rfl
  have c2 : Yba.prog.cellsOf 21 = 1 := by kernel_rfl
  have f1 : (hkey t b).formed Yba.prog 42 = true := by
    simp [hkey, Value.formed, Yba.underlying42, c1]
  unfold keyOf
  simp only [Yba.underlying42, k1, f1, Bool.and_self, if_true]
  obtain ⟨m, hm⟩ : ∃ m, Yba.prog.types.size + 1 = m + 1 + 1 := by
    have h : decide (1 ≤ Yba.prog.types.size) = true := by kernel_rfl
    have h' := of_decide_eq_true h
    exact ⟨Yba.prog.types.size - 1, by omega⟩
  rw [hm]
  unfold Program.keyLits
  simp only [Yba.underlying42, hkey, Value.cells, c1]
  simp [Program.keyLits, Yba.underlying21, w1, w2, c2]

/-- Block mb is the map of the holdings of topic t: broker, its holding's block. -/
def MapAt (w : World) (mb : Nat) (t : Int) (hs : List (Int × Nat)) : Prop :=
  ∃ es clock, w.heap[mb]? = some (.map es clock) ∧ es.toList.map (fun e => (e.key, e.val)) = hs.map fun p => (hkey t p.1, Value.pointer (some ⟨p.2, 0, none⟩))

theorem MapAt.made (w : World) (t : Int) : MapAt (w.alloc (.map #[] 0)) w.heap.size t [] := ⟨#[], 0, heap_alloc_new _ _, rfl⟩
theorem MapAt.lt {w : World} {mb : Nat} {t : Int} {hs : List (Int × Nat)} (h : MapAt w mb t hs) : mb < w.heap.size := by
  obtain ⟨es, clock, hb, _⟩ := h
  exact (Array.getElem?_eq_some_iff.1 hb).1
theorem MapAt.of_block {w w' : World} {mb : Nat} {t : Int} {hs : List (Int × Nat)} (h : MapAt w mb t hs) (hb : w'.heap[mb]? = w.heap[mb]?) : MapAt w' mb t hs := by
  obtain ⟨es, clock, h1, h2⟩ := h
  exact ⟨es, clock, hb.trans h1, h2⟩
theorem MapAt.keep {w w' : World} {mb : Nat} {t : Int} {hs : List (Int × Nat)} (h : MapAt w mb t hs) (hb : Below w.heap.size w w') : MapAt w' mb t hs := h.of_block (hb.block _ h.lt)

theorem hkey_inj {t b c : Int} (h : hkey t b = hkey t c) : b = c := by
  simp [hkey] at h
  exact h

theorem MapAt.keys {w : World} {mb : Nat} {t : Int} {hs : List (Int × Nat)} {es : Array MapEntry} (h : es.toList.map (fun e => (e.key, e.val)) = hs.map fun p => (hkey t p.1, Value.pointer (some ⟨p.2, 0, none⟩))) {e : MapEntry} (he : e ∈ es.toList) :
    ∃ p ∈ hs, e.key = hkey t p.1 ∧ e.val = .pointer (some ⟨p.2, 0, none⟩) := by
  have : (e.key, e.val) ∈ es.toList.map (fun e => (e.key, e.val)) := List.mem_map.2 ⟨e, he, rfl⟩
  rw [h] at this
  obtain ⟨p, hp, e1⟩ := List.mem_map.1 this
  injection e1 with e2 e3
  exact ⟨p, hp, e2.symm, e3.symm⟩

theorem MapAt.lookup {w : World} {mb : Nat} {t : Int} {hs : List (Int × Nat)} (h : MapAt w mb t hs) (ht : Is32 t) (hr : ∀ p ∈ hs, Is32 p.1) (hd : ∀ p ∈ hs, ∀ q ∈ hs, p.1 = q.1 → p = q) {p : Int × Nat} (hp : p ∈ hs) :
    (Instr.lookup 33 (.map (some mb)) (hkey t p.1) false).run Yba.prog w = .ok (.pointer (some ⟨p.2, 0, none⟩)) w := by
  obtain ⟨es, clock, hb, hm⟩ := h
  obtain ⟨l, hl⟩ := keyOf42 ht (hr p hp)
  have hk : ∀ e ∈ es.toList, ∃ l, keyOf Yba.prog 42 e.key = some l := by
    intro e he
    obtain ⟨q, hq, e1, _⟩ := MapAt.keys (w := w) (mb := mb) hm he
    rw [e1]
    exact keyOf42 ht (hr q hq)
  rcases keyed42.find w hl es.toList hk with ⟨_, h2⟩ | ⟨j, e0, h1, h2, h3⟩
  · exfalso
    have : (hkey t p.1, Value.pointer (some ⟨p.2, 0, none⟩)) ∈ es.toList.map (fun e => (e.key, e.val)) := by
      rw [hm]; exact List.mem_map.2 ⟨p, hp, rfl⟩
    obtain ⟨e, he, e1⟩ := List.mem_map.1 this
    injection e1 with e2 _
    exact h2 e he e2
  · obtain ⟨q, hq, e1, e2⟩ := MapAt.keys (w := w) (mb := mb) hm (List.mem_of_getElem? h2)
    have : q = p := hd q hq p hp (hkey_inj (e1.symm.trans h3))
    subst this
    simp [Instr.lookup, run_underlying Yba.underlying33, Go.MapKept.run_getObj_map hb, keyed42.check w _ hl, h1, Result.andThen, e2]

theorem MapAt.update {w : World} {mb : Nat} {t : Int} {hs : List (Int × Nat)} (h : MapAt w mb t hs) (ht : Is32 t) (hr : ∀ p ∈ hs, Is32 p.1) {b : Int} (hb32 : Is32 b) (hn : ∀ p ∈ hs, p.1 ≠ b) (H : Nat) :
    ∃ w', (Instr.mapUpdate 33 (.map (some mb)) (hkey t b) (.pointer (some ⟨H, 0, none⟩))).run Yba.prog w = .ok () w' ∧ MapAt w' mb t (hs ++ [(b, H)]) ∧ w.grownBy w' (some mb) ∧ w'.heap.size = w.heap.size := by
  obtain ⟨es, clock, hb, hm⟩ := h
  obtain ⟨l, hl⟩ := keyOf42 ht hb32
  have hk : ∀ e ∈ es.toList, ∃ l, keyOf Yba.prog 42 e.key = some l := by
    intro e he
    obtain ⟨q, hq, e1, _⟩ := MapAt.keys (w := w) (mb := mb) hm he
    rw [e1]
    exact keyOf42 ht (hr q hq)
  rcases keyed42.find w hl es.toList hk with ⟨h1, _⟩ | ⟨j, e0, _, h2, h3⟩
  · refine ⟨setBlock w mb (.map (es.push { key := hkey t b, val := .pointer (some ⟨H, 0, none⟩), born := clock }) (clock + 1)), ?_, ?_, ?_, ?_⟩
    · simp [Instr.mapUpdate, run_underlying Yba.underlying33, Go.MapKept.run_getObj_map hb, keyed42.check w false hl, h1, Go.MapKept.run_setObj_map _ hb, Result.andThen, setBlock]
    · refine ⟨_, _, heap_setBlock_same hb _, ?_⟩
      simp [hm]
    · exact ⟨rfl, rfl, rfl, by simp [setBlock], fun i _ hi => heap_setBlock_other hb _ (fun e => hi (by rw [e]))⟩
    · simp [setBlock]
  · exfalso
    obtain ⟨q, hq, e1, _⟩ := MapAt.keys (w := w) (mb := mb) hm (List.mem_of_getElem? h2)
    exact hn q hq (hkey_inj (e1.symm.trans h3))

end Go.Proofs.Ybulkkru.cst

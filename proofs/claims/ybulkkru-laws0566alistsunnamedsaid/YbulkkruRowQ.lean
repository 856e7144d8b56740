import Derived.Test.YbulkkruListA
namespace Go.Proofs.Ybulkkru.cst
open Go.RowKit Go.Proofs Go.Proofs.Ybulkkru.net
open Go.Sort (grow HoldsK swp flatK putRowK)
set_option linter.unusedVariables false

theorem flat_len : ∀ l : List Q, (l.flatMap encQ).length = l.length * 13
  | [] => rfl
  | x :: l => by rw [List.flatMap_cons, List.length_append, flat_len l, encQ_len, List.length_cons]; omega

theorem flat_get : ∀ (l : List Q) (i c : Nat), c < 13 → i < l.length → (l.flatMap encQ)[i * 13 + c]? = (encQ (l.getD i default))[c]?
  | [], i, c, _, hi => absurd hi (by simp)
  | x :: l, 0, c, hc, _ => by
    rw [List.flatMap_cons, List.getElem?_append_left (by rw [encQ_len]; omega)]
    simp
  | x :: l, i + 1, c, hc, hi => by
    rw [List.flatMap_cons, List.getElem?_append_right (by rw [encQ_len]; omega), encQ_len, show (i + 1) * 13 + c - 13 = i * 13 + c by omega, flat_get l i c hc (by simpa using hi)]
    simp

theorem swk_block {w0 W : World} {blk off : Nat} {d : Array Q} (h : SWK encQ 13 w0 blk off d W) {k : Nat} (hk : k < w0.heap.size) (hne : k ≠ blk) : W.heap[k]? = w0.heap[k]? := by
  obtain ⟨n, os, rfl⟩ := h
  show ((putRowK encQ 13 (Sort.ahead w0 n) blk off d).heap ++ os)[k]? = _
  rw [Array.getElem?_append_left (by show k < (w0.heap.modify blk _).size; simpa using hk)]
  show (w0.heap.modify blk _)[k]? = _
  rw [Array.getElem?_modify, if_neg (Ne.symm hne)]
theorem swk_size {w0 W : World} {blk off : Nat} {d : Array Q} (h : SWK encQ 13 w0 blk off d W) : w0.heap.size ≤ W.heap.size := h.le
theorem swk_ends {w0 W : World} {blk off : Nat} {d : Array Q} (h : SWK encQ 13 w0 blk off d W) : W.os = w0.os ∧ W.tape = w0.tape ∧ W.output = w0.output := by
  obtain ⟨n, os, rfl⟩ := h
  exact ⟨rfl, rfl, rfl⟩
theorem swk_grown {w0 W : World} {blk off : Nat} {d : Array Q} (h : SWK encQ 13 w0 blk off d W) : w0.grownBy W (some blk) :=
  ⟨(swk_ends h).1, (swk_ends h).2.1, (swk_ends h).2.2, h.le, fun k hk hne => swk_block h hk (fun e => hne (by rw [e]))⟩
/-- A cell of the row's block ahead of the row. -/
theorem swk_ahead {w0 W : World} {blk off x : Nat} {d : Array Q} (h : SWK encQ 13 w0 blk off d W) (hb : blk < w0.heap.size) (hx : x < off) : W.cell? ⟨blk, x, none⟩ = w0.cell? ⟨blk, x, none⟩ := by
  obtain ⟨n, os, rfl⟩ := h
  show (grow (putRowK encQ 13 (Sort.ahead w0 n) blk off d) os).cell? _ = _
  rw [Sort.cell?_grow _ _ _ (by show blk < (w0.heap.modify blk _).size; simpa using hb)]
  unfold putRowK
  rw [Sort.cell?_putRow_other id _ blk off _ _ (Or.inr (Or.inl hx))]
  rfl

/-- The listed row from place P on. -/
theorem holds_of_own {w : World} {b1 P g cap : Nat} {pre W : List Q} (h : w.ownsRow b1 77 13 (.slice (some ⟨g, 0, none⟩) (P + W.length) cap) (P + W.length) ((pre ++ W).flatMap encQ)) (hp : pre.length = P) : HoldsK encQ 13 w g (P * 13) W.toArray := by
  intro t ht
  have ht' : t < W.length * 13 := by simpa using ht
  have hd : t / 13 < W.length := by omega
  have hm : t % 13 < 13 := Nat.mod_lt _ (by omega)
  have e : P * 13 + t = (P + t / 13) * 13 + t % 13 := by omega
  refine ⟨?_, h.frozenAt _⟩
  rw [h.cellAt _ (by omega), e, flat_get _ _ _ hm (by simp; omega), Sort.get_flatK _ _ _ _ (by simpa using ht)]
  have e2 : (pre ++ W).getD (P + t / 13) default = W.toArray[t / 13]! := by
    rw [List.getD_eq_getElem?_getD, List.getElem?_append_right (by omega), show P + t / 13 - pre.length = t / 13 by omega, List.getElem?_eq_getElem hd, getElem!_pos W.toArray (t / 13) (by simpa using hd)]
    simp
  rw [e2]
  have hlt : t % 13 < (encQ W.toArray[t / 13]!).length := hm
  rw [List.getElem?_eq_getElem hlt, getElem!_pos (encQ W.toArray[t / 13]!) (t % 13) hlt]
  rfl

/-- The entry at place i of a row that owns its cells. -/
theorem qat_own {w : World} {b1 n g cap : Nat} {L : List Q} (h : w.ownsRow b1 77 13 (.slice (some ⟨g, 0, none⟩) n cap) n (L.flatMap encQ)) (hn : L.length = n) {i : Nat} (hi : i < n) : QAt w g (i * 13) (L.getD i default) := by
  intro c hc
  rw [h.cellAt _ (by omega), flat_get _ _ _ hc (by omega)]

theorem qat_holds {w : World} {blk off : Nat} {d : Array Q} (h : HoldsK encQ 13 w blk off d) {i : Nat} (hi : i < d.size) : QAt w blk (off + i * 13) d[i]! := qat_of h hi

theorem lst_cap {b1 : Nat} {wr : World} {Lb P m g cap : Nat} {xs : List Value} (h : Lst b1 wr Lb P m (.slice (some ⟨g, 0, none⟩) (P + m) cap) xs) : P + m ≤ cap := by
  rcases h with ⟨rfl, e, _⟩ | ⟨hm, _, h2 | ⟨g', cap', cur, e, _, _, h3, _⟩⟩
  · injection e with _ e1 e2; omega
  · omega
  · injection e with _ _ e2; omega

end Go.Proofs.Ybulkkru.cst

import Derived.Test.YbulkkruRows
import Derived.WalkKit
import Derived.ProofKit
import Derived.Below
import Derived.OneCell
import Derived.WalkSmall
namespace Go.Proofs.Ybulkkru.net
open Go.RowKit

/-- A rack's flow: its rack, what it shares. -/
abbrev RackD := Int × Int
/-- A partition: its topic, its shared flow, its racks. -/
abbrev PartD := Int × Int × List RackD
/-- A broker: its rack, the partitions that it holds. -/
abbrev BrokD := Int × List Int

/-- What flows out of the shared node, Go's sum. -/
def outOf (rs : List RackD) : Int := rs.foldl (fun acc r => wrap64 (acc + r.2)) 0
/-- What flows into rack r: the first entry's. -/
def flowOf (rs : List RackD) (r : Int) : Int := match rs.find? (fun x => x.1 == r) with | some x => x.2 | none => 0
/-- Would a replica that leaves rack r mend the partition? -/
def mendsB (p : PartD) (r : Int) : Bool := decide (0 < flowOf p.2.2 r) && decide (p.2.1 < outOf p.2.2)

theorem outOf_snoc (rs : List RackD) (x : RackD) : outOf (rs ++ [x]) = wrap64 (outOf rs + x.2) := by simp [outOf]
theorem take_snoc {α : Type} (l : List α) (d : α) (k : Nat) (h : k < l.length) : l.take (k + 1) = l.take k ++ [l.getD k d] := by
  rw [List.take_succ_eq_append_getElem h]; simp [List.getD, h]
theorem outOf_take (rs : List RackD) (k : Nat) (h : k < rs.length) : outOf (rs.take (k + 1)) = wrap64 (outOf (rs.take k) + (rs.getD k (0, 0)).2) := by
  rw [take_snoc rs (0, 0) k h, outOf_snoc]

theorem cell_keeps {w w' : World} (hb : Below w.heap.size w w') {a : Addr} {v : Value} (hc : w.cell? a = some v) : w'.cell? a = some v :=
  (hb.cell (World.block_lt_of_cell? w a hc)).trans hc

/-- A row of racks in memory. -/
def RacksAt (w : World) (rb : Nat) (rs : List RackD) : Prop :=
  ∀ k, k < rs.length → w.cell? ⟨rb, k * 3, none⟩ = some (.int .i32 (rs.getD k (0, 0)).1) ∧ w.cell? ⟨rb, k * 3 + 1, none⟩ = some (.bool false) ∧ w.cell? ⟨rb, k * 3 + 2, none⟩ = some (.int .i64 (rs.getD k (0, 0)).2)

/-- A partition in memory. -/
def PartAt (w : World) (b o : Nat) (p : PartD) : Prop :=
  w.cell? ⟨b, o, none⟩ = some (.int .i32 p.1) ∧ w.cell? ⟨b, o + 16, none⟩ = some (.int .i64 p.2.1) ∧
  ∃ rb cap, w.cell? ⟨b, o + 17, none⟩ = some (.slice (some ⟨rb, 0, none⟩) p.2.2.length cap) ∧ RacksAt w rb p.2.2

theorem RacksAt.keeps {w w' : World} (hb : Below w.heap.size w w') {rb : Nat} {rs : List RackD} (h : RacksAt w rb rs) : RacksAt w' rb rs :=
  fun k hk => ⟨cell_keeps hb (h k hk).1, cell_keeps hb (h k hk).2.1, cell_keeps hb (h k hk).2.2⟩

theorem PartAt.keeps {w w' : World} (hb : Below w.heap.size w w') {b o : Nat} {p : PartD} (h : PartAt w b o p) : PartAt w' b o p := by
  obtain ⟨h1, h2, rb, cap, h3, h4⟩ := h
  exact ⟨cell_keeps hb h1, cell_keeps hb h2, rb, cap, cell_keeps hb h3, h4.keeps hb⟩

theorem ret_int {k : IntKind} {a b : Int} (h : a = b) : Ending.returned (.int k a) = .returned (.int k b) := by rw [h]

set_option maxHeartbeats 1000000 in
theorem sharedOut_any (b o : Nat) (p : PartD) (w : World) (hp : PartAt w b o p) (hl : p.2.2.length ≤ 1000) :
    Calls Yba.prog 61 #[.pointer (some ⟨b, o, none⟩)] w fun e w' => e = .returned (.int .i64 (outOf p.2.2)) ∧ Below w.heap.size w w' := by
  obtain ⟨h1, h2, rb, cap, h3, h4⟩ := hp
  generalize p.2.2 = rs at h3 h4 hl
  clear h1 h2
  go_enter Yba.func61, Yba.ntmps61
  go_wp2
  go_loopw [3, 11] (fun s i wr => ∃ k : Nat, k ≤ rs.length ∧ i = .int .i64 k ∧ s = .int .i64 (outOf (rs.take k)) ∧ Below w.heap.size w wr) (fun _ i _ => rs.length - (intOf i).toNat)
  case atStart => exact ⟨0, Nat.zero_le _, rfl, rfl, Below.refl _ _⟩
  case round =>
    obtain ⟨k, hk, rfl, rfl, hnx⟩ := hrel
    by_cases hlt : k < rs.length
    · have c1 := cell_keeps hnx (h4 k hlt).1
      have c2 := cell_keeps hnx (h4 k hlt).2.1
      have c3 := cell_keeps hnx (h4 k hlt).2.2
      have HS : Hid (outOf (rs.take (k + 1)) = wrap64 (outOf (rs.take k) + (rs.getD k (0, 0)).2)) := outOf_take rs k hlt
      generalize rs.getD k (0, 0) = x at c1 c2 c3 HS
      generalize outOf (rs.take k) = s0 at HS
      clear h4
      go_wp2
      go_roundw
      case rel => exact ⟨k + 1, by omega, by go_num, by rw [HS.out], hnx.alloc hnx.size _⟩
      case measure => simp [intOf]; omega
    · go_wp2
      go_ret
      exact ⟨ret_int (by rw [List.take_of_length_le (by omega)]), hnx⟩

theorem find_take {rs : List RackD} {r : Int} {k : Nat} (h : (rs.take k).find? (fun x => x.1 == r) = none) (hk : k < rs.length) (hx : ((rs.getD k (0, 0)).1 == r) = false) :
    (rs.take (k + 1)).find? (fun x => x.1 == r) = none := by
  rw [take_snoc rs (0, 0) k hk, List.find?_append, h]; simp only [Option.none_or, List.find?_cons, hx, List.find?_nil]

theorem flow_hit {rs : List RackD} {r : Int} {k : Nat} (h : (rs.take k).find? (fun x => x.1 == r) = none) (hk : k < rs.length) (hx : ((rs.getD k (0, 0)).1 == r) = true) :
    flowOf rs r = (rs.getD k (0, 0)).2 := by
  have e : (rs.take (k + 1) ++ rs.drop (k + 1)).find? (fun x => x.1 == r) = some (rs.getD k (0, 0)) := by
    rw [take_snoc rs (0, 0) k hk, List.append_assoc, List.find?_append, h]; simp only [Option.none_or, List.cons_append, List.find?_cons, hx]
  rw [List.take_append_drop] at e
  rw [flowOf, e]

set_option maxHeartbeats 1000000 in
theorem flowInto_any (b o : Nat) (p : PartD) (r : Int) (w : World) (hp : PartAt w b o p) (hl : p.2.2.length ≤ 1000) :
    Calls Yba.prog 60 #[.pointer (some ⟨b, o, none⟩), .int .i32 r] w fun e w' => e = .returned (.agg #[.int .i32 r, .bool false, .int .i64 (flowOf p.2.2 r)]) ∧ Below w.heap.size w w' := by
  obtain ⟨h1, h2, rb, cap, h3, h4⟩ := hp
  generalize p.2.2 = rs at h3 h4 hl
  clear h1 h2
  have h3b := World.block_lt_of_cell? _ _ h3
  go_enter Yba.func60, Yba.ntmps60
  go_wp2
  go_loopw [12] (fun i wr => ∃ k : Nat, k ≤ rs.length ∧ i = .int .i64 k ∧ (rs.take k).find? (fun x => x.1 == r) = none ∧ wr.heap[w.heap.size]? = some (.cells #[.int .i32 0, .bool false, .int .i64 0] 135 (0, 0)) ∧ Below w.heap.size w wr) (fun i _ => rs.length - (intOf i).toNat)
  case atStart => exact ⟨0, Nat.zero_le _, rfl, rfl, heap_alloc_new _ _, (Below.refl _ _).alloc (Nat.le_refl _) _⟩
  case round =>
    obtain ⟨k, hk, rfl, hnone, hres, hnx⟩ := hrel
    have hz := lt_of_block hres
    have r0 : wr.cell? ⟨w.heap.size, 0, none⟩ = some (.int .i32 0) := by simp [World.cell?, hres]
    have r1 : wr.cell? ⟨w.heap.size, 1, none⟩ = some (.bool false) := by simp [World.cell?, hres]
    have r2 : wr.cell? ⟨w.heap.size, 2, none⟩ = some (.int .i64 0) := by simp [World.cell?, hres]
    have g0 : wr.frozen? ⟨w.heap.size, 0, none⟩ = false := by simp [World.frozen?, hres]
    have g1 : wr.frozen? ⟨w.heap.size, 1, none⟩ = false := by simp [World.frozen?, hres]
    have g2 : wr.frozen? ⟨w.heap.size, 2, none⟩ = false := by simp [World.frozen?, hres]
    have HR : Hid _ := hres
    clear hres
    by_cases hlt : k < rs.length
    · have c1 := cell_keeps hnx (h4 k hlt).1
      have c2 := cell_keeps hnx (h4 k hlt).2.1
      have c3 := cell_keeps hnx (h4 k hlt).2.2
      cases hx : ((rs.getD k (0, 0)).1 == r) with
      | true =>
        have HF : Hid (flowOf rs r = (rs.getD k (0, 0)).2) := flow_hit hnone hlt hx
        generalize rs.getD k (0, 0) = x at c1 c2 c3 hx HF
        clear h4
        go_wp2
        refine bodyPost_ret (v := .agg #[.int .i32 x.1, .bool false, .int .i64 x.2]) (by simp [results, Yba.results60, go_sem, *]) rfl ⟨?_, ?_⟩
        · rw [HF.out, show x.1 = r by simpa using hx]
        · exact ((((hnx.setCell (Nat.le_refl _) _).setCell (Nat.le_refl _) _).setCell (Nat.le_refl _) _).alloc (by simp; exact hnx.size) _)
      | false =>
        have HF : Hid ((rs.take (k + 1)).find? (fun x => x.1 == r) = none) := find_take hnone hlt hx
        generalize rs.getD k (0, 0) = x at c1 c2 c3 hx HF
        clear h4
        go_wp2
        go_roundw
        case rel => exact ⟨k + 1, by omega, by go_num, HF.out, (Below.heap_alloc _ _ _ hz).trans HR.out, hnx.alloc hnx.size _⟩
        case measure => simp [intOf]; omega
    · go_wp2
      have hf : flowOf rs r = 0 := by
        rw [List.take_of_length_le (by omega)] at hnone
        rw [flowOf, hnone]
      refine bodyPost_ret (v := .agg #[.int .i32 r, .bool false, .int .i64 0]) (by simp [results, Yba.results60, go_sem, *]) rfl ⟨?_, ?_⟩
      · rw [hf]
      · exact ((hnx.setCell (Nat.le_refl _) _).setCell (Nat.le_refl _) _).setCell (Nat.le_refl _) _

end Go.Proofs.Ybulkkru.net

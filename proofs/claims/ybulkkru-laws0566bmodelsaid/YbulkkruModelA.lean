import Derived.Test.YbulkkruMender
namespace Go.Proofs.Ybulkkru.net
open Go.RowKit
set_option linter.unusedVariables false

def foundIn (rs : List RackD) (r : Int) : Bool := (rs.find? (fun x => x.1 == r)).isSome

theorem flow_old {rs : List RackD} {r : Int} {k : Nat} (hk : k < rs.length) (h : foundIn (rs.take k) r = true) :
    flowOf (rs.take (k + 1)) r = flowOf (rs.take k) r ∧ foundIn (rs.take (k + 1)) r = true := by
  unfold foundIn at h
  cases hf : (rs.take k).find? (fun x => x.1 == r) with
  | none => rw [hf] at h; simp at h
  | some y =>
    have e : (rs.take (k + 1)).find? (fun x => x.1 == r) = some y := by
      rw [take_snoc rs (0, 0) k hk, List.find?_append, hf]; rfl
    simp [flowOf, foundIn, hf, e]
theorem flow_new {rs : List RackD} {r : Int} {k : Nat} (hk : k < rs.length) (h : foundIn (rs.take k) r = false) (hx : ((rs.getD k (0, 0)).1 == r) = true) :
    flowOf (rs.take (k + 1)) r = (rs.getD k (0, 0)).2 ∧ foundIn (rs.take (k + 1)) r = true := by
  have hf : (rs.take k).find? (fun x => x.1 == r) = none := by
    cases hf : (rs.take k).find? (fun x => x.1 == r) with
    | none => rfl
    | some y => rw [foundIn, hf] at h; simp at h
  have e : (rs.take (k + 1)).find? (fun x => x.1 == r) = some (rs.getD k (0, 0)) := by
    rw [take_snoc rs (0, 0) k hk, List.find?_append, hf]; simp only [Option.none_or, List.find?_cons, hx]
  rw [flowOf, foundIn, e]
  exact ⟨rfl, rfl⟩
theorem flow_none {rs : List RackD} {r : Int} {k : Nat} (hk : k < rs.length) (h : foundIn (rs.take k) r = false) (hx : ((rs.getD k (0, 0)).1 == r) = false) :
    flowOf (rs.take (k + 1)) r = flowOf (rs.take k) r ∧ foundIn (rs.take (k + 1)) r = false := by
  have hf : (rs.take k).find? (fun x => x.1 == r) = none := by
    cases hf : (rs.take k).find? (fun x => x.1 == r) with
    | none => rfl
    | some y => rw [foundIn, hf] at h; simp at h
  have e := find_take hf hk hx
  simp [flowOf, foundIn, hf, e]

set_option maxHeartbeats 2000000 in
set_option maxRecDepth 100000 in
theorem bmends_any (b o : Nat) (p : PartD) (r : Int) (w : World) (hp : PartAt w b o p) (hl : p.2.2.length ≤ 1000) :
    Calls Yba.prog 17 #[.pointer (some ⟨b, o, none⟩), .int .i32 r] w fun e w' => e = .returned (.bool (mendsB p r)) ∧ Below w.heap.size w w' := by
  obtain ⟨h1, h2, rb, cap, h3, h4⟩ := hp
  have HM : Hid (mendsB p r = (decide (0 < flowOf p.2.2 r) && decide (p.2.1 < outOf p.2.2))) := rfl
  generalize mendsB p r = mb at HM
  generalize p.2.2 = rs at h3 h4 hl HM
  generalize p.2.1 = sh at h2 HM
  clear h1
  go_enter Yba.func17, Yba.ntmps17
  go_wp2
  go_loopw [5, 6, 7, 8] (fun f s t i wr => ∃ k : Nat, k ≤ rs.length ∧ i = .int .i64 k ∧ f = .bool (foundIn (rs.take k) r) ∧ s = .int .i64 (flowOf (rs.take k) r) ∧ t = .int .i64 (outOf (rs.take k)) ∧ Below w.heap.size w wr) (fun _ _ _ i _ => rs.length - (intOf i).toNat)
  case atStart => exact ⟨0, Nat.zero_le _, rfl, rfl, rfl, rfl, Below.refl _ _⟩
  case round =>
    obtain ⟨k, hk, rfl, rfl, rfl, rfl, hnx⟩ := hrel
    have q3 := cell_keeps hnx h3
    have q2 := cell_keeps hnx h2
    by_cases hlt : k < rs.length
    · have c1 := cell_keeps hnx (h4 k hlt).1
      have c2 := cell_keeps hnx (h4 k hlt).2.1
      have c3 := cell_keeps hnx (h4 k hlt).2.2
      have HS : Hid (outOf (rs.take (k + 1)) = wrap64 (outOf (rs.take k) + (rs.getD k (0, 0)).2)) := outOf_take rs k hlt
      have hd3 := World.block_lt_of_cell? _ _ q3
      have a1 : (k : Int) < (rs.length : Int) := by omega
      cases hfd : foundIn (rs.take k) r with
      | true =>
        have HF : Hid (flowOf (rs.take (k + 1)) r = flowOf (rs.take k) r ∧ foundIn (rs.take (k + 1)) r = true) := flow_old hlt hfd
        generalize rs.getD k (0, 0) = x at c1 c2 c3 HS
        clear h4
        go_wp2
        go_roundw
        case rel => exact ⟨k + 1, by omega, by go_num, by rw [HF.out.2], by rw [HF.out.1], by rw [HS.out], hnx.alloc hnx.size _⟩
        case measure => simp [intOf]; omega
      | false =>
        cases hx : ((rs.getD k (0, 0)).1 == r) with
        | true =>
          have HF : Hid (flowOf (rs.take (k + 1)) r = (rs.getD k (0, 0)).2 ∧ foundIn (rs.take (k + 1)) r = true) := flow_new hlt hfd hx
          generalize rs.getD k (0, 0) = x at c1 c2 c3 HS HF hx
          clear h4
          go_wp2
          go_roundw
          case rel => exact ⟨k + 1, by omega, by go_num, by rw [HF.out.2], by rw [HF.out.1], by rw [HS.out], hnx.alloc hnx.size _⟩
          case measure => simp [intOf]; omega
        | false =>
          have HF : Hid (flowOf (rs.take (k + 1)) r = flowOf (rs.take k) r ∧ foundIn (rs.take (k + 1)) r = false) := flow_none hlt hfd hx
          generalize rs.getD k (0, 0) = x at c1 c2 c3 HS hx
          clear h4
          go_wp2
          go_roundw
          case rel => exact ⟨k + 1, by omega, by go_num, by rw [HF.out.2], by rw [HF.out.1], by rw [HS.out], hnx.alloc hnx.size _⟩
          case measure => simp [intOf]; omega
    · obtain rfl : k = rs.length := by omega
      clear h4
      have e : rs.take rs.length = rs := List.take_of_length_le (Nat.le_refl _)
      rw [e]
      clear e
      by_cases hf : 0 < flowOf rs r
      · go_wp2
        go_ret
        refine ⟨?_, hnx⟩
        rw [HM.out, show decide (0 < flowOf rs r) = true by simpa using hf]
        rfl
      · have hd : decide (0 < flowOf rs r) = false := by simpa using hf
        go_wp2
        go_ret
        refine ⟨?_, hnx⟩
        rw [HM.out, hd]
        rfl

end Go.Proofs.Ybulkkru.net

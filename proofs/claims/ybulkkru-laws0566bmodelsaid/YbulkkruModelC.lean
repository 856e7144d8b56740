import Derived.Test.YbulkkruBuild
import Derived.Test.YbulkkruModelB
namespace Go.Proofs.Ybulkkru.net
open Go.RowKit
set_option linter.unusedVariables false

set_option maxHeartbeats 4000000 in
set_option maxRecDepth 100000 in
theorem model_back (ao bo : Option Addr) (cap bcap : Nat) (D : List PartD) (E : List BrokD) (kd a b : Int) (um : Bool) (w : World) (hD : PartsIn w ao D) (hE : BroksIn w bo E) (hDl : D.length ≤ 300) (hEl : E.length ≤ 300)
    (k0 : 0 ≤ kd) (k1 : kd ≤ 255) (a0 : 0 ≤ a) (a1 : a ≤ 255) (b0 : 0 ≤ b) (b1 : b ≤ 255) :
    Calls Yba.prog 4 #[.slice ao D.length cap, .slice bo E.length bcap, .bool um, .bool true, .int .u8 kd, .int .u8 a, .int .u8 b] w fun e w' => e = .returned (.bool true) ∧ Below w.heap.size w w' := by
  go_enter Yba.func4, Yba.ntmps4
  go_wp2
  go_loop [15] (fun i => ∃ k : Nat, k ≤ D.length ∧ i = .int .i64 k ∧ ∀ j, j < k → (partOf D j).2.2.length ≤ 300) (fun i => D.length - (intOf i).toNat)
  case atStart => exact ⟨0, Nat.zero_le _, rfl, fun j hj => absurd hj (by omega)⟩
  case round =>
    obtain ⟨k, hk, rfl, hall⟩ := hrel
    by_cases hlt : k < D.length
    · obtain ⟨b', off, rfl, hc⟩ := hD (by omega)
      obtain ⟨_, _, _, _, ro, rcap, g2, _⟩ := hc k hlt
      by_cases h3 : (partOf D k).2.2.length ≤ 300
      · go_wp2
        go_round
        case rel => exact ⟨k + 1, by omega, by go_num, fun j hj => by
          by_cases e : j = k
          · subst e; exact h3
          · exact hall j (by omega)⟩
        case measure => simp [intOf]; omega
      · go_wp2
        go_ret
        exact ⟨rfl, Below.refl _ _⟩
    · obtain rfl : k = D.length := by omega
      go_wp2
      go_loop [16] (fun i => ∃ k : Nat, k ≤ E.length ∧ i = .int .i64 k ∧ ∀ j, j < k → (brokOf E j).2.length ≤ 300) (fun i => E.length - (intOf i).toNat)
      case atStart => exact ⟨0, Nat.zero_le _, rfl, fun j hj => absurd hj (by omega)⟩
      case round =>
        obtain ⟨k, hk, rfl, hallE⟩ := hrel
        by_cases hlt : k < E.length
        · obtain ⟨b', off, rfl, hc⟩ := hE (by omega)
          obtain ⟨_, _, ro, rcap, g2, _⟩ := hc k hlt
          by_cases h3 : (brokOf E k).2.length ≤ 300
          · go_wp2
            go_round
            case rel => exact ⟨k + 1, by omega, by go_num, fun j hj => by
              by_cases e : j = k
              · subst e; exact h3
              · exact hallE j (by omega)⟩
            case measure => simp [intOf]; omega
          · go_wp2
            go_ret
            exact ⟨rfl, Below.refl _ _⟩
        · obtain rfl : k = E.length := by omega
          go_wp2_with fail
          refine (build_any ao bo cap bcap D E um w hD hE hDl hEl hall hallE).mono ?_
          rintro e w1 ⟨N, Pb, pcap, Rb, rcap, rfl, hn, hb1⟩
          have hPl := (outParts_len D).1
          have hRl := (outBroks_len (outParts D).length E).1
          generalize outParts D = P at hn hPl hRl
          generalize outBroks P.length E = R at hn hRl
          clear hD hE hall hallE
          go_wp2_with fail
          refine (node_any N Pb pcap Rb rcap P R _ w1 hn kd a b hPl hRl k0 k1 a0 a1 b0 b1).mono ?_
          rintro e w2 ⟨rfl, hb2⟩
          have hn2 := hn.keeps hb2
          have hbw2 : Below w.heap.size w w2 := hb1.trans (hb2.mono hb1.size)
          clear hn
          clear hn2
          go_wp2_with fail
          refine (mender_back N _ _ _ _).mono ?_
          rintro e w3 ⟨rfl, hb3⟩
          go_wp2
          go_ret
          exact ⟨rfl, (hbw2.alloc hbw2.size _).trans (hb3.mono (by simp; have := hbw2.size; omega))⟩

set_option maxHeartbeats 4000000 in
set_option maxRecDepth 100000 in
theorem model_mended (ao bo : Option Addr) (cap bcap : Nat) (D : List PartD) (E : List BrokD) (kd a b : Int) (w : World) (hD : PartsIn w ao D) (hE : BroksIn w bo E) (hDl : D.length ≤ 300) (hEl : E.length ≤ 300)
    (k0 : 0 ≤ kd) (k1 : kd ≤ 255) (a0 : 0 ≤ a) (a1 : a ≤ 255) (b0 : 0 ≤ b) (b1 : b ≤ 255) :
    Calls Yba.prog 4 #[.slice ao D.length cap, .slice bo E.length bcap, .bool false, .bool false, .int .u8 kd, .int .u8 a, .int .u8 b] w fun e w' => e = .returned (.bool true) ∧ Below w.heap.size w w' := by
  go_enter Yba.func4, Yba.ntmps4
  go_wp2
  go_loop [15] (fun i => ∃ k : Nat, k ≤ D.length ∧ i = .int .i64 k ∧ ∀ j, j < k → (partOf D j).2.2.length ≤ 300) (fun i => D.length - (intOf i).toNat)
  case atStart => exact ⟨0, Nat.zero_le _, rfl, fun j hj => absurd hj (by omega)⟩
  case round =>
    obtain ⟨k, hk, rfl, hall⟩ := hrel
    by_cases hlt : k < D.length
    · obtain ⟨b', off, rfl, hc⟩ := hD (by omega)
      obtain ⟨_, _, _, _, ro, rcap, g2, _⟩ := hc k hlt
      by_cases h3 : (partOf D k).2.2.length ≤ 300
      · go_wp2
        go_round
        case rel => exact ⟨k + 1, by omega, by go_num, fun j hj => by
          by_cases e : j = k
          · subst e; exact h3
          · exact hall j (by omega)⟩
        case measure => simp [intOf]; omega
      · go_wp2
        go_ret
        exact ⟨rfl, Below.refl _ _⟩
    · obtain rfl : k = D.length := by omega
      go_wp2
      go_loop [16] (fun i => ∃ k : Nat, k ≤ E.length ∧ i = .int .i64 k ∧ ∀ j, j < k → (brokOf E j).2.length ≤ 300) (fun i => E.length - (intOf i).toNat)
      case atStart => exact ⟨0, Nat.zero_le _, rfl, fun j hj => absurd hj (by omega)⟩
      case round =>
        obtain ⟨k, hk, rfl, hallE⟩ := hrel
        by_cases hlt : k < E.length
        · obtain ⟨b', off, rfl, hc⟩ := hE (by omega)
          obtain ⟨_, _, ro, rcap, g2, _⟩ := hc k hlt
          by_cases h3 : (brokOf E k).2.length ≤ 300
          · go_wp2
            go_round
            case rel => exact ⟨k + 1, by omega, by go_num, fun j hj => by
              by_cases e : j = k
              · subst e; exact h3
              · exact hallE j (by omega)⟩
            case measure => simp [intOf]; omega
          · go_wp2
            go_ret
            exact ⟨rfl, Below.refl _ _⟩
        · obtain rfl : k = E.length := by omega
          go_wp2_with fail
          refine (build_any ao bo cap bcap D E false w hD hE hDl hEl hall hallE).mono ?_
          rintro e w1 ⟨N, Pb, pcap, Rb, rcap, rfl, hn, hb1⟩
          have hPl := (outParts_len D).1
          have hRl := (outBroks_len (outParts D).length E).1
          generalize outParts D = P at hn hPl hRl
          generalize outBroks P.length E = R at hn hRl
          clear hD hE hall hallE
          go_wp2_with fail
          refine (node_any N Pb pcap Rb rcap P R _ w1 hn kd a b hPl hRl k0 k1 a0 a1 b0 b1).mono ?_
          rintro e w2 ⟨rfl, hb2⟩
          have hn2 := hn.keeps hb2
          have hbw2 : Below w.heap.size w w2 := hb1.trans (hb2.mono hb1.size)
          clear hn
          have hu := cell_keeps ((Below.refl _ _).alloc (Nat.le_refl _) (.cells #[.int .u8 (kd % 7), .int .i32 (nodeA P.length R.length (kd % 7) a), .int .i32 (nodeB R.length (kd % 7) b)] 66)) hn2.unm
          clear hn2
          go_wp2_with fail
          refine (mender_none N _ _ _ _ hu).mono ?_
          rintro e w3 ⟨rfl, hb3⟩
          go_wp2
          go_ret
          exact ⟨rfl, (hbw2.alloc hbw2.size _).trans (hb3.mono (by simp; have := hbw2.size; omega))⟩

end Go.Proofs.Ybulkkru.net

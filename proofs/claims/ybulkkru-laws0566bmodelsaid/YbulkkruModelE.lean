import Derived.Test.YbulkkruBuild
import Derived.Test.YbulkkruModelD
namespace Go.Proofs.Ybulkkru.net
open Go.RowKit
set_option linter.unusedVariables false

set_option maxHeartbeats 4000000 in
set_option maxRecDepth 100000 in
theorem model_hold (ao bo : Option Addr) (cap bcap : Nat) (D : List PartD) (E : List BrokD) (kd a b : Int) (w : World) (hD : PartsIn w ao D) (hE : BroksIn w bo E) (hDl : D.length ≤ 300) (hEl : E.length ≤ 300)
    (k0 : 0 ≤ kd) (k1 : kd ≤ 255) (a0 : 0 ≤ a) (a1 : a ≤ 255) (b0 : 0 ≤ b) (b1 : b ≤ 255) (e3 : kd % 7 = 3) :
    Calls Yba.prog 4 #[.slice ao D.length cap, .slice bo E.length bcap, .bool true, .bool false, .int .u8 kd, .int .u8 a, .int .u8 b] w fun e w' => e = .returned (.bool true) ∧ Below w.heap.size w w' := by
  go_enter Yba.func4, Yba.ntmps4
  go_wp2
  go_loop [15] (fun i => ∃ k : Nat, k ≤ D.length ∧ i = .int .i64 k ∧ ∀ j, j < k → (partOf D j).2.2.length ≤ 300) (fun i => D.length - (intOf i).toNat)
  case atStart => exact ⟨0, Nat.zero_le _, rfl, fun j hj => absurd hj (by omega)⟩
  case round =>
    obtain ⟨k, hk, rfl, hall⟩ := hrel
    by_cases hlt : k < D.length
    · obtain ⟨b', off, rfl, hc⟩ := hD (by omega)
      obtain ⟨_, _, _, _, ro, rcap, g2, _⟩ := hc k hlt
      by_cases h3 : (partOf D k).2.2.length ≤ 300
      · go_wp2
        go_round
        case rel => exact ⟨k + 1, by omega, by go_num, fun j hj => by
          by_cases e : j = k
          · subst e; exact h3
          · exact hall j (by omega)⟩
        case measure => simp [intOf]; omega
      · go_wp2
        go_ret
        exact ⟨rfl, Below.refl _ _⟩
    · obtain rfl : k = D.length := by omega
      go_wp2
      go_loop [16] (fun i => ∃ k : Nat, k ≤ E.length ∧ i = .int .i64 k ∧ ∀ j, j < k → (brokOf E j).2.length ≤ 300) (fun i => E.length - (intOf i).toNat)
      case atStart => exact ⟨0, Nat.zero_le _, rfl, fun j hj => absurd hj (by omega)⟩
      case round =>
        obtain ⟨k, hk, rfl, hallE⟩ := hrel
        by_cases hlt : k < E.length
        · obtain ⟨b', off, rfl, hc⟩ := hE (by omega)
          obtain ⟨_, _, ro, rcap, g2, _⟩ := hc k hlt
          by_cases h3 : (brokOf E k).2.length ≤ 300
          · go_wp2
            go_round
            case rel => exact ⟨k + 1, by omega, by go_num, fun j hj => by
              by_cases e : j = k
              · subst e; exact h3
              · exact hallE j (by omega)⟩
            case measure => simp [intOf]; omega
          · go_wp2
            go_ret
            exact ⟨rfl, Below.refl _ _⟩
        · obtain rfl : k = E.length := by omega
          go_wp2_with fail
          refine (build_any ao bo cap bcap D E true w hD hE hDl hEl hall hallE).mono ?_
          rintro e w1 ⟨N, Pb, pcap, Rb, rcap, rfl, hn, hb1⟩
          have hPl := (outParts_len D).1
          have hRl := (outBroks_len (outParts D).length E).1
          generalize outParts D = P at hn hPl hRl
          generalize outBroks P.length E = R at hn hRl
          clear hD hE hall hallE
          go_wp2_with fail
          refine (node_any N Pb pcap Rb rcap P R _ w1 hn kd a b hPl hRl k0 k1 a0 a1 b0 b1).mono ?_
          rintro e w2 ⟨rfl, hb2⟩
          have hn2 := hn.keeps hb2
          have hbw2 : Below w.heap.size w w2 := hb1.trans (hb2.mono hb1.size)
          clear hn
          obtain ⟨ap0, ap1⟩ := emod_np b0 b1 hRl
          have ap2 := Int.emod_lt_of_pos b (b := (R.length : Int)) (by omega)
          obtain ⟨bi, hbi⟩ := Int.eq_ofNat_of_zero_le ap0
          have hbil : bi < R.length := by omega
          have hB : nodeB R.length 3 b = (bi : Int) := by simp [nodeB, hbi]
          obtain ⟨t, hA⟩ : ∃ t, nodeA P.length R.length 3 a = t := ⟨_, rfl⟩
          clear ap0 ap1 ap2 hbi
          have hn3 : NetAt (w2.alloc (.cells #[.int .u8 3, .int .i32 t, .int .i32 bi] 66)) N Pb pcap Rb rcap P R 1 := hn2.keeps ((Below.refl _ _).alloc (Nat.le_refl _) _)
          clear hn2
          go_wp2_with fail
          refine (mender_holding N Pb pcap Rb rcap P R 1 _ hn3 rfl bi t hbil).mono ?_
          rintro e w3 ⟨rfl, hb3⟩
          have hbw3 : Below w.heap.size w w3 := (hbw2.alloc hbw2.size _).trans (hb3.mono (by simp; have := hbw2.size; omega))
          have v0 : w3.cell? ⟨w2.heap.size, 0, none⟩ = some (.int .u8 3) := cell_keeps hb3 (new_cell (i := 0) rfl)
          have v1 : w3.cell? ⟨w2.heap.size, 1, none⟩ = some (.int .i32 t) := cell_keeps hb3 (new_cell (i := 1) rfl)
          have v2 : w3.cell? ⟨w2.heap.size, 2, none⟩ = some (.int .i32 bi) := cell_keeps hb3 (new_cell (i := 2) rfl)
          have hn4 := hn3.keeps hb3
          have h1 := hn4.parts
          have h2 := hn4.brokers
          have hlp := hn4.plen
          have hlr := hn4.rlen
          obtain ⟨h4, h5, pb, cp, h6, h7⟩ := hn4.brok bi hbil
          have hheld := hn4.held bi hbil
          have hrefs := hn4.refs bi hbil
          rw [scan_want]
          generalize (brokOf R bi).1 = rack at h4
          generalize (brokOf R bi).2 = ps at h6 h7 hheld hrefs
          have hparts := hn4.part
          have hracks := hn4.racks
          clear hn3 hn4 hb3 hA hB h5
          have z0 : (0 : Int) ≤ (bi : Int) := by omega
          have z1 : (bi : Int) < (R.length : Int) := by omega
          go_wp2_with fail
          go_loopw [23, 24, 26] (fun s y i wr => ∃ k : Nat, k ≤ ps.length ∧ i = .int .i64 k ∧ s = .bool (sameOf P rack t (ps.take k)) ∧ y = .bool (anyOf P rack (ps.take k)) ∧ Below w3.heap.size w3 wr) (fun _ _ i _ => ps.length - (intOf i).toNat)
          case atStart => exact ⟨0, Nat.zero_le _, rfl, rfl, rfl, Below.refl _ _⟩
          case round =>
            obtain ⟨k, hk, rfl, rfl, rfl, hnx⟩ := hrel
            have q6 := cell_keeps hnx h6
            by_cases hlt : k < ps.length
            · obtain ⟨j, hj, hjl⟩ := hrefs k hlt
              have q7 := cell_keeps hnx (h7 k hlt)
              rw [hj] at q7
              have q1 := cell_keeps hnx h1
              have q4 := cell_keeps hnx h4
              have hpart := (hparts j hjl).keeps hnx
              have hrk := hracks j hjl
              have HAny : Hid _ := any_take P rack ps k j hlt hj
              have HSame : Hid _ := same_take P rack t ps k j hlt hj
              have y0 : (0 : Int) ≤ (j : Int) := by omega
              have y1 : (j : Int) < (P.length : Int) := by omega
              have y2 : (k : Int) < (ps.length : Int) := by omega
              clear hj h7 hrefs hparts hracks
              go_wp2_with fail
              go_quiet (fail)
              go_wp2_with fail
              refine (bmends_any Pb (j * 19) (partOf P j) rack _ (hpart.keeps (by exact below_drewN (Below.refl _ _) _)) hrk).mono ?_
              rintro e w5 ⟨rfl, hb5⟩
              have hS : Below w3.heap.size w3 w5 := (below_drewN hnx _).trans (hb5.mono hnx.size)
              have r1 := cell_keeps hb5 (show (wr.drewN _).cell? _ = _ from hpart.1)
              clear hpart q7 q1 q4 q6
              generalize sameOf P rack t (ps.take k) = sm at HSame
              generalize anyOf P rack (ps.take k) = an at HAny
              cases hm : mendsB (partOf P j) rack with
              | false =>
                have e1 := HSame.out
                have e2 := HAny.out
                rw [hm] at e1 e2
                have HE1 : Hid _ := e1
                have HE2 : Hid _ := e2
                clear e1 e2
                go_wp2
                go_roundw
                case rel => exact ⟨k + 1, by omega, by go_num, by rw [HE1.out]; simp, by rw [HE2.out]; simp, hS⟩
                case measure => simp [intOf]; omega
              | true =>
                cases ht : ((partOf P j).1 == t) with
                | true =>
                  have e1 := HSame.out
                  have e2 := HAny.out
                  rw [hm, ht] at e1
                  rw [hm] at e2
                  have HE1 : Hid _ := e1
                  have HE2 : Hid _ := e2
                  clear e1 e2
                  go_wp2
                  go_roundw
                  case rel => exact ⟨k + 1, by omega, by go_num, by rw [HE1.out]; simp, by rw [HE2.out]; simp, hS⟩
                  case measure => simp [intOf]; omega
                | false =>
                  have e1 := HSame.out
                  have e2 := HAny.out
                  rw [hm, ht] at e1
                  rw [hm] at e2
                  have HE1 : Hid _ := e1
                  have HE2 : Hid _ := e2
                  clear e1 e2
                  go_wp2
                  go_roundw
                  case rel => exact ⟨k + 1, by omega, by go_num, by rw [HE1.out]; simp, by rw [HE2.out]; simp, hS⟩
                  case measure => simp [intOf]; omega
            · obtain rfl : k = ps.length := by omega
              clear h7 hrefs hparts hracks
              have hS : Below w.heap.size w wr := hbw3.trans (hnx.mono hbw3.size)
              have e : ps.take ps.length = ps := List.take_of_length_le (Nat.le_refl _)
              rw [e]
              clear e
              generalize sameOf P rack t ps = sm
              generalize anyOf P rack ps = an
              have x0 : wantOf true an = 0 := rfl
              have x1 : wantOf false true = 1 := rfl
              have x2 : wantOf false false = 2 := rfl
              cases sm with
              | true =>
                go_wp2
                go_ret
                exact ⟨rfl, hS⟩
              | false =>
                cases an with
                | true =>
                  go_wp2
                  go_ret
                  exact ⟨rfl, hS⟩
                | false =>
                  go_wp2
                  go_ret
                  exact ⟨rfl, hS⟩

end Go.Proofs.Ybulkkru.net

import Derived.Test.YbulkkruBuild
import Derived.Test.YbulkkruRank
namespace Go.Proofs.Ybulkkru.net
open Go.RowKit
set_option linter.unusedVariables false

theorem scan_pos {P : List PartD} {rack : Int} (h : ∀ i, (partOf P i).1 ≠ -1) : ∀ (l : List Int) (rk : Int), 0 < rk → scan P rack (-1) l rk ≠ 0
  | [], rk, hr => by simp [scan]; omega
  | p :: l, rk, hr => by
    have ht : ((partOf P p.toNat).1 == -1) = false := beq_eq_false_iff_ne.2 (h _)
    rw [scan]
    cases hm : mendsB (partOf P p.toNat) rack with
    | false => exact scan_pos h l rk hr
    | true => simp only [ht]; exact scan_pos h l 1 (by omega)

theorem menderAt_pos {P : List PartD} {R : List BrokD} {u : Int} {bi : Nat} (h : ∀ i, (partOf P i).1 ≠ -1) : (menderAt P R u bi == 0) = false := by
  apply beq_eq_false_iff_ne.2
  rw [menderAt]
  cases u == 0 with
  | true => simp
  | false => exact scan_pos h _ _ (by omega)

theorem topics_pos {D : List PartD} {ao : Option Addr} {w : World} (hD : PartsIn w ao D) : ∀ i, (partOf (outParts D) i).1 ≠ -1 := by
  intro i
  by_cases hi : i < (outParts D).length
  · by_cases h0 : D.length = 0
    · rw [outParts_nil h0] at hi ⊢
      obtain rfl : i = 0 := by simpa using hi
      simp [partOf]
    · rw [outParts_cons (by omega)] at hi ⊢
      have hi' : i < D.length := by simpa using hi
      rw [partOf_map hi']
      obtain ⟨b, off, _, hc⟩ := hD (by omega)
      obtain ⟨_, _, gt, _⟩ := hc i hi'
      simp [outPart]
      omega
  · simp [partOf, List.getD, List.getElem?_eq_none (by omega : (outParts D).length ≤ i)]

theorem startQ {w w1 : World} {a b c d : Addr} {x y z t : Value} (h1 : w1.cell? a = some x) (h2 : w1.cell? b = some y) (h3 : w1.cell? c = some z) (h4 : w1.cell? d = some t) (h : Below w.heap.size w w1) :
    w1.drew.cell? a = some x ∧ w1.drew.cell? b = some y ∧ w1.drew.cell? c = some z ∧ w1.drew.cell? d = some t ∧ Below w.heap.size w w1.drew := ⟨h1, h2, h3, h4, h.drew⟩

set_option maxHeartbeats 4000000 in
set_option maxRecDepth 100000 in
theorem rank_walk (ao bo : Option Addr) (cap bcap : Nat) (D : List PartD) (E : List BrokD) (um : Bool) (a : Int) (w : World) (hD : PartsIn w ao D) (hE : BroksIn w bo E) (hDl : D.length ≤ 300) (hEl : E.length ≤ 300) (ha0 : 0 ≤ a) (ha1 : a ≤ 255) :
    Calls Yba.prog 5 #[.slice ao D.length cap, .slice bo E.length bcap, .bool um, .int .u8 a] w fun e w' => e = .returned (.bool true) ∧ Below w.heap.size w w' := by
  go_enter Yba.func5, Yba.ntmps5
  go_wp2
  go_loop [9] (fun i => ∃ k : Nat, k ≤ D.length ∧ i = .int .i64 k ∧ ∀ j, j < k → (partOf D j).2.2.length ≤ 300) (fun i => D.length - (intOf i).toNat)
  case atStart => exact ⟨0, Nat.zero_le _, rfl, fun j hj => absurd hj (by omega)⟩
  case round =>
    obtain ⟨k, hk, rfl, hall⟩ := hrel
    by_cases hlt : k < D.length
    · obtain ⟨b, off, rfl, hc⟩ := hD (by omega)
      obtain ⟨_, _, _, _, ro, rcap, g2, _⟩ := hc k hlt
      by_cases h3 : (partOf D k).2.2.length ≤ 300
      · go_wp2
        go_round
        case rel => exact ⟨k + 1, by omega, by go_num, fun j hj => by
          by_cases e : j = k
          · subst e; exact h3
          · exact hall j (by omega)⟩
        case measure => simp [intOf]; omega
      · go_wp2
        go_ret
        exact ⟨rfl, Below.refl _ _⟩
    · obtain rfl : k = D.length := by omega
      go_wp2
      go_loop [10] (fun i => ∃ k : Nat, k ≤ E.length ∧ i = .int .i64 k ∧ ∀ j, j < k → (brokOf E j).2.length ≤ 300) (fun i => E.length - (intOf i).toNat)
      case atStart => exact ⟨0, Nat.zero_le _, rfl, fun j hj => absurd hj (by omega)⟩
      case round =>
        obtain ⟨k, hk, rfl, hallE⟩ := hrel
        by_cases hlt : k < E.length
        · obtain ⟨b, off, rfl, hc⟩ := hE (by omega)
          obtain ⟨_, _, ro, rcap, g2, _⟩ := hc k hlt
          by_cases h3 : (brokOf E k).2.length ≤ 300
          · go_wp2
            go_round
            case rel => exact ⟨k + 1, by omega, by go_num, fun j hj => by
              by_cases e : j = k
              · subst e; exact h3
              · exact hallE j (by omega)⟩
            case measure => simp [intOf]; omega
          · go_wp2
            go_ret
            exact ⟨rfl, Below.refl _ _⟩
        · obtain rfl : k = E.length := by omega
          go_wp2_with fail
          refine (build_any ao bo cap bcap D E um w hD hE hDl hEl hall hallE).mono ?_
          rintro e w1 ⟨N, Pb, pcap, Rb, rcap, rfl, hn, hb1⟩
          have htop := topics_pos hD
          generalize hPe : outParts D = P at hn htop
          generalize hRe : outBroks P.length E = R at hn
          have hRl := outBroks_len P.length E
          rw [hRe] at hRl
          clear hPe hRe hD hE hall hallE
          obtain ⟨hRl1, hRl2⟩ := hRl
          obtain ⟨hx0, hx1⟩ := emod_np ha0 ha1 hRl1
          have hx2 := Int.emod_lt_of_pos a (b := (R.length : Int)) (by omega)
          obtain ⟨bi, hbi⟩ := Int.eq_ofNat_of_zero_le hx0
          have hbil : bi < R.length := by omega
          have c1 := hn.brokers
          generalize (if um = true then (1 : Int) else 0) = u at hn
          go_wp2_with fail
          refine (mender_at N Pb pcap Rb rcap P R u w1 hn bi 0 hbil).mono ?_
          rintro e w2 ⟨rfl, hb2⟩
          have hn2 := hn.keeps hb2
          go_wp2_with fail
          refine (rankOf_any N Pb pcap Rb rcap P R u w2 hn2 bi hbil).mono ?_
          rintro e w3 ⟨rfl, hb3⟩
          have hn3 := hn2.keeps hb3
          have hm0 := menderAt_pos (R := R) (u := u) (bi := bi) htop
          obtain ⟨m, hme⟩ : ∃ m, m = menderAt P R u bi := ⟨_, rfl⟩
          rw [← hme] at hm0
          rw [← hme]
          obtain ⟨_, _, pb, pcp, h6, _⟩ := hn3.brok bi hbil
          have h2 := hn3.brokers
          generalize hle : (brokOf R bi).2.length = ln at h6
          have hbw3 : Below w.heap.size w w3 := (hb1.trans (hb2.mono hb1.size)).trans (hb3.mono (Nat.le_trans hb1.size hb2.size))
          clear hn hn2 c1 hme hle hbi hx0 hx1 hx2
          have b0 : (0 : Int) ≤ (bi : Int) := by omega
          have b1 : (bi : Int) < (R.length : Int) := by omega
          have d0 : N < w3.heap.size := World.block_lt_of_cell? _ _ h2
          have d1 : Rb < w3.heap.size := World.block_lt_of_cell? _ _ h6
          go_wp2_with fail
          generalize hw4 : w3.alloc (.cells #[.int .i64 0, .int .i64 0, .int .i64 0, .int .i64 m, .int .i64 (ln : Nat)] 30) = w4
          have F4 : w4.cell? ⟨w3.heap.size, 3, none⟩ = some (.int .i64 m) ∧ w4.cell? ⟨w3.heap.size, 4, none⟩ = some (.int .i64 (ln : Nat)) ∧ Below w3.heap.size w3 w4 := by
            subst hw4
            exact ⟨World.cell?_alloc_at _ _ _ _ rfl, World.cell?_alloc_at _ _ _ _ rfl, (Below.refl _ _).alloc (Nat.le_refl _) _⟩
          clear hw4
          obtain ⟨q1, q2, hb4⟩ := F4
          have q3 := cell_keeps hb4 h2
          have q4 := cell_keeps hb4 h6
          have hbw4 : Below w.heap.size w w4 := hbw3.trans (hb4.mono hbw3.size)
          clear h2 h6
          go_region_held3 (fun w' => w'.cell? ⟨w3.heap.size, 3, none⟩ = some (.int .i64 m) ∧ w'.cell? ⟨w3.heap.size, 4, none⟩ = some (.int .i64 (ln : Nat)) ∧ w'.cell? ⟨N, 1, none⟩ = some (.slice (some ⟨Rb, 0, none⟩) R.length rcap) ∧ w'.cell? ⟨Rb, bi * 13 + 3, none⟩ = some (.slice (some ⟨pb, 0, none⟩) ln pcp) ∧ Below w.heap.size w w')
            (first | with_reducible exact startQ q1 q2 q3 q4 hbw4 | with_reducible exact keep5 (by assumption) hb)
            (first | (go_at_call 16; refine (mender_back N _ _ _ _).mono ?_; rintro e w' ⟨rfl, hb⟩))
          go_wp2
          go_ret
          exact ⟨rfl, hbw4.drew.trans (hb.mono hbw4.size)⟩

/-- More than 300 of either: the law says true at once. -/
theorem rank_many (ao bo : Option Addr) (n cap m bcap : Nat) (um : Bool) (a : Int) (w : World) (hn : n ≤ maxLen) (hm : m ≤ maxLen) (h : 300 < n ∨ 300 < m) :
    Calls Yba.prog 5 #[.slice ao n cap, .slice bo m bcap, .bool um, .int .u8 a] w fun e w' => e = .returned (.bool true) ∧ Below w.heap.size w w' := by
  unfold maxLen at hn hm
  by_cases h1 : 300 < n
  · have h1' : (300 : Int) < (n : Int) := by omega
    go_enter Yba.func5, Yba.ntmps5
    go_wp2
    go_ret
    exact ⟨rfl, Below.refl _ _⟩
  · have h1' : ¬ (300 : Int) < (n : Int) := by omega
    have h2' : (300 : Int) < (m : Int) := by omega
    go_enter Yba.func5, Yba.ntmps5
    go_wp2
    go_ret
    exact ⟨rfl, Below.refl _ _⟩

end Go.Proofs.Ybulkkru.net

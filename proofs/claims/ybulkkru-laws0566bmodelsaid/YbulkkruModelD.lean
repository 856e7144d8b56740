import Derived.Test.YbulkkruBuild
import Derived.Test.YbulkkruModelB
namespace Go.Proofs.Ybulkkru.net
open Go.RowKit
set_option linter.unusedVariables false

theorem new_cell {w : World} {cs : Array Value} {t : TypeId} {i : Nat} {v : Value} (h : cs[i]? = some v) : (w.alloc (.cells cs t)).cell? ⟨w.heap.size, i, none⟩ = some v := (World.cell?_alloc_at _ _ _ _ rfl).trans h

/-- Does any of them mend; any of them of topic t? -/
def anyOf (P : List PartD) (rack : Int) (l : List Int) : Bool := l.any fun p => mendsB (partOf P p.toNat) rack
def sameOf (P : List PartD) (rack t : Int) (l : List Int) : Bool := l.any fun p => mendsB (partOf P p.toNat) rack && ((partOf P p.toNat).1 == t)
/-- What the law wants. -/
def wantOf (s a : Bool) : Int := match s with | true => 0 | false => match a with | true => 1 | false => 2

theorem scan_any (P : List PartD) (rack t : Int) : ∀ (l : List Int) (rk : Int), scan P rack t l rk = match sameOf P rack t l with | true => 0 | false => match anyOf P rack l with | true => 1 | false => rk
  | [], rk => rfl
  | p :: l, rk => by
    rw [scan]
    cases hm : mendsB (partOf P p.toNat) rack with
    | false =>
      have e1 : sameOf P rack t (p :: l) = sameOf P rack t l := by simp [sameOf, hm]
      have e2 : anyOf P rack (p :: l) = anyOf P rack l := by simp [anyOf, hm]
      rw [e1, e2]
      exact scan_any P rack t l rk
    | true =>
      cases ht : ((partOf P p.toNat).1 == t) with
      | true =>
        have e1 : sameOf P rack t (p :: l) = true := by simp [sameOf, hm, ht]
        rw [e1]; rfl
      | false =>
        have e1 : sameOf P rack t (p :: l) = sameOf P rack t l := by simp [sameOf, hm, ht]
        have e2 : anyOf P rack (p :: l) = true := by simp [anyOf, hm]
        rw [e1, e2]
        simp only []
        rw [if_neg (by simp), scan_any P rack t l 1]
        cases sameOf P rack t l <;> cases anyOf P rack l <;> rfl
theorem scan_want (P : List PartD) (rack t : Int) (l : List Int) : scan P rack t l 2 = wantOf (sameOf P rack t l) (anyOf P rack l) := by
  rw [scan_any]; rfl

theorem any_take (P : List PartD) (rack : Int) (l : List Int) (k j : Nat) (hk : k < l.length) (hj : l.getD k 0 = j) : anyOf P rack (l.take (k + 1)) = (anyOf P rack (l.take k) || mendsB (partOf P j) rack) := by
  rw [take_snoc l 0 k hk, hj]; simp [anyOf]
theorem same_take (P : List PartD) (rack t : Int) (l : List Int) (k j : Nat) (hk : k < l.length) (hj : l.getD k 0 = j) : sameOf P rack t (l.take (k + 1)) = (sameOf P rack t (l.take k) || (mendsB (partOf P j) rack && ((partOf P j).1 == t))) := by
  rw [take_snoc l 0 k hk, hj]; simp [sameOf]

set_option maxHeartbeats 4000000 in
set_option maxRecDepth 100000 in
theorem model_rack (ao bo : Option Addr) (cap bcap : Nat) (D : List PartD) (E : List BrokD) (kd a b : Int) (w : World) (hD : PartsIn w ao D) (hE : BroksIn w bo E) (hDl : D.length ≤ 300) (hEl : E.length ≤ 300)
    (k0 : 0 ≤ kd) (k1 : kd ≤ 255) (a0 : 0 ≤ a) (a1 : a ≤ 255) (b0 : 0 ≤ b) (b1 : b ≤ 255) (e6 : kd % 7 = 6) :
    Calls Yba.prog 4 #[.slice ao D.length cap, .slice bo E.length bcap, .bool true, .bool false, .int .u8 kd, .int .u8 a, .int .u8 b] w fun e w' => e = .returned (.bool true) ∧ Below w.heap.size w w' := by
  go_enter Yba.func4, Yba.ntmps4
  go_wp2
  go_loop [15] (fun i => ∃ k : Nat, k ≤ D.length ∧ i = .int .i64 k ∧ ∀ j, j < k → (partOf D j).2.2.length ≤ 300) (fun i => D.length - (intOf i).toNat)
  case atStart => exact ⟨0, Nat.zero_le _, rfl, fun j hj => absurd hj (by omega)⟩
  case round =>
    obtain ⟨k, hk, rfl, hall⟩ := hrel
    by_cases hlt : k < D.length
    · obtain ⟨b', off, rfl, hc⟩ := hD (by omega)
      obtain ⟨_, _, _, _, ro, rcap, g2, _⟩ := hc k hlt
      by_cases h3 : (partOf D k).2.2.length ≤ 300
      · go_wp2
        go_round
        case rel => exact ⟨k + 1, by omega, by go_num, fun j hj => by
          by_cases e : j = k
          · subst e; exact h3
          · exact hall j (by omega)⟩
        case measure => simp [intOf]; omega
      · go_wp2
        go_ret
        exact ⟨rfl, Below.refl _ _⟩
    · obtain rfl : k = D.length := by omega
      go_wp2
      go_loop [16] (fun i => ∃ k : Nat, k ≤ E.length ∧ i = .int .i64 k ∧ ∀ j, j < k → (brokOf E j).2.length ≤ 300) (fun i => E.length - (intOf i).toNat)
      case atStart => exact ⟨0, Nat.zero_le _, rfl, fun j hj => absurd hj (by omega)⟩
      case round =>
        obtain ⟨k, hk, rfl, hallE⟩ := hrel
        by_cases hlt : k < E.length
        · obtain ⟨b', off, rfl, hc⟩ := hE (by omega)
          obtain ⟨_, _, ro, rcap, g2, _⟩ := hc k hlt
          by_cases h3 : (brokOf E k).2.length ≤ 300
          · go_wp2
            go_round
            case rel => exact ⟨k + 1, by omega, by go_num, fun j hj => by
              by_cases e : j = k
              · subst e; exact h3
              · exact hallE j (by omega)⟩
            case measure => simp [intOf]; omega
          · go_wp2
            go_ret
            exact ⟨rfl, Below.refl _ _⟩
        · obtain rfl : k = E.length := by omega
          go_wp2_with fail
          refine (build_any ao bo cap bcap D E true w hD hE hDl hEl hall hallE).mono ?_
          rintro e w1 ⟨N, Pb, pcap, Rb, rcap, rfl, hn, hb1⟩
          have hPl := (outParts_len D).1
          have hRl := (outBroks_len (outParts D).length E).1
          generalize outParts D = P at hn hPl hRl
          generalize outBroks P.length E = R at hn hRl
          clear hD hE hall hallE
          go_wp2_with fail
          refine (node_any N Pb pcap Rb rcap P R _ w1 hn kd a b hPl hRl k0 k1 a0 a1 b0 b1).mono ?_
          rintro e w2 ⟨rfl, hb2⟩
          have hn2 := hn.keeps hb2
          have hbw2 : Below w.heap.size w w2 := hb1.trans (hb2.mono hb1.size)
          clear hn
          obtain ⟨ap0, ap1⟩ := emod_np a0 a1 hPl
          have ap2 := Int.emod_lt_of_pos a (b := (P.length : Int)) (by omega)
          obtain ⟨pi, hpi⟩ := Int.eq_ofNat_of_zero_le ap0
          have hpil : pi < P.length := by omega
          have hA : nodeA P.length R.length 6 a = (pi : Int) := by simp [nodeA, hpi]
          obtain ⟨r, hB⟩ : ∃ r, nodeB R.length 6 b = r := ⟨_, rfl⟩
          clear ap0 ap1 ap2 hpi
          have hn3 : NetAt (w2.alloc (.cells #[.int .u8 6, .int .i32 pi, .int .i32 r] 66)) N Pb pcap Rb rcap P R 1 := hn2.keeps ((Below.refl _ _).alloc (Nat.le_refl _) _)
          clear hn2
          go_wp2_with fail
          refine (mender_rack N Pb pcap Rb rcap P R 1 _ hn3 rfl pi r hpil).mono ?_
          rintro e w3 ⟨rfl, hb3⟩
          have hbw3 : Below w.heap.size w w3 := (hbw2.alloc hbw2.size _).trans (hb3.mono (by simp; have := hbw2.size; omega))
          have v0 : w3.cell? ⟨w2.heap.size, 0, none⟩ = some (.int .u8 6) := cell_keeps hb3 (new_cell (i := 0) rfl)
          have v1 : w3.cell? ⟨w2.heap.size, 1, none⟩ = some (.int .i32 pi) := cell_keeps hb3 (new_cell (i := 1) rfl)
          have v2 : w3.cell? ⟨w2.heap.size, 2, none⟩ = some (.int .i32 r) := cell_keeps hb3 (new_cell (i := 2) rfl)
          have hn4 := hn3.keeps hb3
          have h1 := hn4.parts
          have hpart := hn4.part pi hpil
          have hrk := hn4.racks pi hpil
          have hlp := hn4.plen
          clear hn3 hn4 hb3 hA hB
          have z0 : (0 : Int) ≤ (pi : Int) := by omega
          have z1 : (pi : Int) < (P.length : Int) := by omega
          go_wp2_with fail
          go_region_held3 (fun w' => w'.cell? ⟨N, 0, none⟩ = some (.slice (some ⟨Pb, 0, none⟩) P.length pcap) ∧ w'.cell? ⟨w2.heap.size, 1, none⟩ = some (.int .i32 pi) ∧ w'.cell? ⟨w2.heap.size, 2, none⟩ = some (.int .i32 r) ∧ Below w3.heap.size w3 w')
            (first | with_reducible exact start4 h1 v1 v2 (Below.refl _ _) | with_reducible exact keep4 (by assumption) hb)
            (first | (go_at_call 17; refine (bmends_any Pb (pi * 19) (partOf P pi) r _ (hpart.keeps (below4 ⟨N, 0, none⟩ ⟨w2.heap.size, 1, none⟩ ⟨w2.heap.size, 2, none⟩ _ _ _ (by assumption))) hrk).mono ?_; rintro e w' ⟨rfl, hb⟩))
          have hS : Below w.heap.size w w' := hbw3.drew.trans (hb.mono hbw3.size)
          clear hpart
          cases hm : mendsB (partOf P pi) r with
          | true =>
            have hr : rankM true = 0 := rfl
            go_wp2
            go_ret
            exact ⟨rfl, hS⟩
          | false =>
            have hr : rankM false = 2 := rfl
            go_wp2
            go_ret
            exact ⟨rfl, hS⟩

end Go.Proofs.Ybulkkru.net

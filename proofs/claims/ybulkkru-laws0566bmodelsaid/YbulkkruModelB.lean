import Derived.Test.YbulkkruModelA
import Derived.Test.YbulkkruRank
import Derived.Test.YbulkkruBuildA
namespace Go.Proofs.Ybulkkru.net
open Go.RowKit
set_option linter.unusedVariables false

set_option maxHeartbeats 4000000 in
set_option maxRecDepth 100000 in
theorem mender_holding (N Pb pcap Rb rcap : Nat) (P : List PartD) (R : List BrokD) (u : Int) (w : World) (hn : NetAt w N Pb pcap Rb rcap P R u) (hu : (u == 0) = false) (bi : Nat) (t : Int) (hbi : bi < R.length) :
    Calls Yba.prog 16 #[.pointer (some ⟨N, 0, none⟩), .agg #[.int .u8 3, .int .i32 t, .int .i32 bi], .bool false] w fun e w' => e = .returned (.int .i64 (scan P (brokOf R bi).1 t (brokOf R bi).2 2)) ∧ Below w.heap.size w w' := by
  have h1 := hn.parts
  have h2 := hn.brokers
  have h3 := hn.unm
  have hlp := hn.plen
  have hlr := hn.rlen
  obtain ⟨h4, h5, pb, cap, h6, h7⟩ := hn.brok bi hbi
  have hheld := hn.held bi hbi
  have hrefs := hn.refs bi hbi
  have hbi1 : (bi : Int) < (R.length : Int) := by omega
  have hbi0 : (0 : Int) ≤ (bi : Int) := by omega
  generalize (brokOf R bi).1 = rack at h4
  generalize (brokOf R bi).2 = ps at h6 h7 hheld hrefs
  clear h5
  have hN : N < w.heap.size := World.block_lt_of_cell? _ _ h1
  have hRb : Rb < w.heap.size := World.block_lt_of_cell? _ _ h4
  go_enter Yba.func16, Yba.ntmps16
  go_wp2
  go_quiet (fail)
  go_wp2
  go_loopw [9, 55] (fun s i wr => ∃ (k : Nat) (rk : Int), k ≤ ps.length ∧ i = .int .i64 k ∧ s = .int .i64 rk ∧ scan P rack t (ps.drop k) rk = scan P rack t ps 2 ∧ Below w.heap.size w wr) (fun _ i _ => ps.length - (intOf i).toNat)
  case atStart => exact ⟨0, 2, Nat.zero_le _, rfl, rfl, rfl, below_drewN ((Below.refl _ _).alloc (Nat.le_refl _) _) _⟩
  case round =>
    obtain ⟨k, rk, hk, rfl, rfl, hsc, hnx⟩ := hrel
    by_cases hlt : k < ps.length
    · obtain ⟨j, hj, hjl⟩ := hrefs k hlt
      have c0 := cell_keeps hnx (h7 k hlt)
      rw [hj] at c0
      have c1 := cell_keeps hnx h1
      have c2 := cell_keeps hnx h2
      have c4 := cell_keeps hnx h4
      have ct := (hn.part j hjl).1
      have hpart := hn.part j hjl
      have hrk := hn.racks j hjl
      have a0 : (0 : Int) ≤ (j : Int) := by omega
      have a1 : (j : Int) < (P.length : Int) := by omega
      have a2 : (k : Int) < (ps.length : Int) := by omega
      have HJ : Hid (ps.getD k 0 = j) := hj
      have HC : Hid (scan P rack t (ps.drop k) rk = scan P rack t ps 2) := hsc
      clear hj h7 hrefs hsc
      go_wp2_with fail
      go_region_held3 (fun w' => w'.cell? ⟨N, 0, none⟩ = some (.slice (some ⟨Pb, 0, none⟩) P.length pcap) ∧ w'.cell? ⟨N, 1, none⟩ = some (.slice (some ⟨Rb, 0, none⟩) R.length rcap) ∧ w'.cell? ⟨Rb, bi * 13, none⟩ = some (.int .i32 rack) ∧ Below w.heap.size w w')
        (first | exact start4 c1 c2 c4 hnx | exact keep4 (by assumption) hb)
        (first | (go_at_call 38; refine (mendsFrom_any Pb (j * 19) (partOf P j) rack _ (hpart.keeps (below4 ⟨N, 0, none⟩ ⟨N, 1, none⟩ ⟨Rb, bi * 13, none⟩ _ _ _ (by assumption))) hrk).mono ?_; rintro e w' ⟨rfl, hb⟩))
      have hS : Below w.heap.size w w' := below4 ⟨N, 0, none⟩ ⟨N, 1, none⟩ ⟨Rb, bi * 13, none⟩ _ _ _ (by assumption)
      have q1 := cell_keeps hS h1
      have q2 := cell_keeps hS ct
      clear c0 c1 c2 c4 ct
      cases hm : mendsB (partOf P j) rack with
      | false =>
        go_wp2
        go_roundw
        case rel => exact ⟨k + 1, rk, by omega, by go_num, rfl, (scan_no hlt HJ.out hm).symm.trans HC.out, hS⟩
        case measure => simp [intOf]; omega
      | true =>
        cases ht : ((partOf P j).1 == t) with
        | true =>
          go_wp2
          go_ret
          exact ⟨ret_int ((scan_hit hlt HJ.out hm ht).symm.trans HC.out), hS⟩
        | false =>
          go_wp2
          go_roundw
          case rel => exact ⟨k + 1, 1, by omega, by go_num, rfl, (scan_one hlt HJ.out hm ht).symm.trans HC.out, hS⟩
          case measure => simp [intOf]; omega
    · go_wp2
      go_ret
      have e : ps.drop k = [] := List.drop_eq_nil_of_le (by omega)
      rw [e] at hsc
      exact ⟨ret_int hsc, hnx⟩


def rankM (b : Bool) : Int := match b with | true => 0 | false => 2

set_option maxHeartbeats 2000000 in
set_option maxRecDepth 100000 in
theorem mender_rack (N Pb pcap Rb rcap : Nat) (P : List PartD) (R : List BrokD) (u : Int) (w : World) (hn : NetAt w N Pb pcap Rb rcap P R u) (hu : (u == 0) = false) (pi : Nat) (r : Int) (hpi : pi < P.length) :
    Calls Yba.prog 16 #[.pointer (some ⟨N, 0, none⟩), .agg #[.int .u8 6, .int .i32 pi, .int .i32 r], .bool false] w fun e w' => e = .returned (.int .i64 (rankM (mendsB (partOf P pi) r))) ∧ Below w.heap.size w w' := by
  have h1 := hn.parts
  have h3 := hn.unm
  have hlp := hn.plen
  have hpart := hn.part pi hpi
  have hrk := hn.racks pi hpi
  have a0 : (0 : Int) ≤ (pi : Int) := by omega
  have a1 : (pi : Int) < (P.length : Int) := by omega
  have hN : N < w.heap.size := World.block_lt_of_cell? _ _ h1
  go_enter Yba.func16, Yba.ntmps16
  go_wp2
  generalize hw1 : w.alloc (.cells #[.int .u8 6, .int .i32 pi, .int .i32 r] 66) = w1
  have F1 : w1.cell? ⟨w.heap.size, 1, none⟩ = some (.int .i32 pi) ∧ w1.cell? ⟨w.heap.size, 2, none⟩ = some (.int .i32 r) ∧ Below w.heap.size w w1 := by
    subst hw1
    exact ⟨World.cell?_alloc_at _ _ _ _ rfl, World.cell?_alloc_at _ _ _ _ rfl, (Below.refl _ _).alloc (Nat.le_refl _) _⟩
  clear hw1
  obtain ⟨q1, q2, hb1⟩ := F1
  have q0 := cell_keeps hb1 h1
  go_region_held3 (fun w' => w'.cell? ⟨N, 0, none⟩ = some (.slice (some ⟨Pb, 0, none⟩) P.length pcap) ∧ w'.cell? ⟨w.heap.size, 1, none⟩ = some (.int .i32 pi) ∧ w'.cell? ⟨w.heap.size, 2, none⟩ = some (.int .i32 r) ∧ Below w.heap.size w w')
    (first | with_reducible exact start4 q0 q1 q2 hb1 | with_reducible exact keep4 (by assumption) hb)
    (first | (go_at_call 38; refine (mendsFrom_any Pb (pi * 19) (partOf P pi) r _ (hpart.keeps (below4 ⟨N, 0, none⟩ ⟨w.heap.size, 1, none⟩ ⟨w.heap.size, 2, none⟩ _ _ _ (by assumption))) hrk).mono ?_; rintro e w' ⟨rfl, hb⟩))
  have hS : Below w.heap.size w w' := hb1.drew.trans (hb.mono hb1.size)
  clear hpart hn
  cases hm : mendsB (partOf P pi) r with
  | true =>
    go_wp2
    go_ret
    exact ⟨ret_int (by rw [hm]; rfl), hS⟩
  | false =>
    go_wp2
    go_ret
    exact ⟨ret_int (by rw [hm]; rfl), hS⟩

set_option maxHeartbeats 2000000 in
theorem mender_other (N : Nat) (k : Int) (x y : Value) (u : Int) (w : World) (h : w.cell? ⟨N, 20, none⟩ = some (.int .i64 u)) (hu : (u == 0) = false) (k6 : (k == 6) = false) (k3 : (k == 3) = false) (k2 : (k == 2) = false) :
    Calls Yba.prog 16 #[.pointer (some ⟨N, 0, none⟩), .agg #[.int .u8 k, x, y], .bool false] w fun e w' => e = .returned (.int .i64 2) ∧ Below w.heap.size w w' := by
  have hN : N < w.heap.size := World.block_lt_of_cell? _ _ h
  go_enter Yba.func16, Yba.ntmps16
  go_wp2
  go_ret
  exact ⟨rfl, (Below.refl _ _).alloc (Nat.le_refl _) _⟩

/-- The node that the law asks for. -/
def nodeA (np nr : Nat) (k a : Int) : Int := if k = 6 then a % (np : Int) else if k = 3 then a % 3 else if k = 2 then a % (nr : Int) else a
def nodeB (nr : Nat) (k b : Int) : Int := if k = 6 then b % 3 else if k = 3 then b % (nr : Int) else b

set_option maxHeartbeats 2000000 in
set_option maxRecDepth 100000 in
theorem node_any (N Pb pcap Rb rcap : Nat) (P : List PartD) (R : List BrokD) (u : Int) (w : World) (hn : NetAt w N Pb pcap Rb rcap P R u) (kd a b : Int) (hp : 0 < P.length) (hr : 0 < R.length)
    (k0 : 0 ≤ kd) (k1 : kd ≤ 255) (a0 : 0 ≤ a) (a1 : a ≤ 255) (b0 : 0 ≤ b) (b1 : b ≤ 255) :
    Calls Yba.prog 15 #[.pointer (some ⟨N, 0, none⟩), .int .u8 kd, .int .u8 a, .int .u8 b] w fun e w' => e = .returned (.agg #[.int .u8 (kd % 7), .int .i32 (nodeA P.length R.length (kd % 7) a), .int .i32 (nodeB R.length (kd % 7) b)]) ∧ Below w.heap.size w w' := by
  have h1 := hn.parts
  have h2 := hn.brokers
  have hlp := hn.plen
  have hlr := hn.rlen
  have hN : N < w.heap.size := World.block_lt_of_cell? _ _ h1
  obtain ⟨ap0, ap1⟩ := emod_np a0 a1 hp
  obtain ⟨ar0, ar1⟩ := emod_np a0 a1 hr
  obtain ⟨br0, br1⟩ := emod_np b0 b1 hr
  by_cases e6 : kd % 7 = 6
  · have HA : Hid (nodeA P.length R.length (kd % 7) a = a % (P.length : Int)) := show _ = _ by simp [nodeA, e6]
    have HB : Hid (nodeB R.length (kd % 7) b = b % 3) := show _ = _ by simp [nodeB, e6]
    go_enter Yba.func15, Yba.ntmps15
    go_wp2
    refine bodyPost_ret (v := .agg #[.int .u8 6, .int .i32 (a % (P.length : Int)), .int .i32 (b % 3)]) (by simp [results, Yba.results15, go_sem]) rfl ⟨?_, ?_⟩
    · rw [HA.out, HB.out, e6]
    · exact (Below.refl _ _).alloc (Nat.le_refl _) _
  by_cases e3 : kd % 7 = 3
  · have HA : Hid (nodeA P.length R.length (kd % 7) a = a % 3) := show _ = _ by simp [nodeA, e3]
    have HB : Hid (nodeB R.length (kd % 7) b = b % (R.length : Int)) := show _ = _ by simp [nodeB, e3]
    go_enter Yba.func15, Yba.ntmps15
    go_wp2
    refine bodyPost_ret (v := .agg #[.int .u8 3, .int .i32 (a % 3), .int .i32 (b % (R.length : Int))]) (by simp [results, Yba.results15, go_sem]) rfl ⟨?_, ?_⟩
    · rw [HA.out, HB.out, e3]
    · exact (Below.refl _ _).alloc (Nat.le_refl _) _
  by_cases e2 : kd % 7 = 2
  · have HA : Hid (nodeA P.length R.length (kd % 7) a = a % (R.length : Int)) := show _ = _ by simp [nodeA, e2]
    have HB : Hid (nodeB R.length (kd % 7) b = b) := show _ = _ by simp [nodeB, e2]
    go_enter Yba.func15, Yba.ntmps15
    go_wp2
    refine bodyPost_ret (v := .agg #[.int .u8 2, .int .i32 (a % (R.length : Int)), .int .i32 b]) (by simp [results, Yba.results15, go_sem]) rfl ⟨?_, ?_⟩
    · rw [HA.out, HB.out, e2]
    · exact (Below.refl _ _).alloc (Nat.le_refl _) _
  have HA : Hid (nodeA P.length R.length (kd % 7) a = a) := show _ = _ by simp [nodeA, e6, e3, e2]
  have HB : Hid (nodeB R.length (kd % 7) b = b) := show _ = _ by simp [nodeB, e6, e3]
  have k6 : (kd % 7 == 6) = false := beq_eq_false_iff_ne.2 e6
  have k3 : (kd % 7 == 3) = false := beq_eq_false_iff_ne.2 e3
  have k2 : (kd % 7 == 2) = false := beq_eq_false_iff_ne.2 e2
  go_enter Yba.func15, Yba.ntmps15
  go_wp2
  refine bodyPost_ret (v := .agg #[.int .u8 (kd % 7), .int .i32 a, .int .i32 b]) (by simp [results, Yba.results15, go_sem]) rfl ⟨?_, ?_⟩
  · rw [HA.out, HB.out]
  · exact (Below.refl _ _).alloc (Nat.le_refl _) _

end Go.Proofs.Ybulkkru.net

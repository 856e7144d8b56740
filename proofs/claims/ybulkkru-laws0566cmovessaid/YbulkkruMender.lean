import Derived.Test.YbulkkruMends
namespace Go.Proofs.Ybulkkru.net
open Go.RowKit
set_option linter.unusedVariables false

/-- The partition at a place; the broker at a place. -/
def partOf (P : List PartD) (i : Nat) : PartD := P.getD i (0, 0, [])
def brokOf (R : List BrokD) (i : Nat) : BrokD := R.getD i (0, [])

/-- A broker in memory. -/
def BrokAt (w : World) (b o : Nat) (d : BrokD) : Prop :=
  w.cell? ⟨b, o, none⟩ = some (.int .i32 d.1) ∧
  (w.cell? ⟨b, o + 5, none⟩ = some (.int .i64 0) ∧ w.cell? ⟨b, o + 6, none⟩ = some (.int .i64 0) ∧ w.cell? ⟨b, o + 7, none⟩ = some (.int .i64 0)) ∧
  ∃ pb cap, w.cell? ⟨b, o + 3, none⟩ = some (.slice (some ⟨pb, 0, none⟩) d.2.length cap) ∧ ∀ k, k < d.2.length → w.cell? ⟨pb, k, none⟩ = some (.int .i32 (d.2.getD k 0))

theorem BrokAt.keeps {w w' : World} (hb : Below w.heap.size w w') {b o : Nat} {d : BrokD} (h : BrokAt w b o d) : BrokAt w' b o d := by
  obtain ⟨h1, ⟨h2, h3, h4⟩, pb, cap, h5, h6⟩ := h
  exact ⟨cell_keeps hb h1, ⟨cell_keeps hb h2, cell_keeps hb h3, cell_keeps hb h4⟩, pb, cap, cell_keeps hb h5, fun k hk => cell_keeps hb (h6 k hk)⟩

/-- The network in memory: its partitions, its brokers, how many are unmended. -/
structure NetAt (w : World) (N Pb pcap Rb rcap : Nat) (P : List PartD) (R : List BrokD) (u : Int) : Prop where
  parts : w.cell? ⟨N, 0, none⟩ = some (.slice (some ⟨Pb, 0, none⟩) P.length pcap)
  brokers : w.cell? ⟨N, 1, none⟩ = some (.slice (some ⟨Rb, 0, none⟩) R.length rcap)
  unm : w.cell? ⟨N, 20, none⟩ = some (.int .i64 u)
  part : ∀ i, i < P.length → PartAt w Pb (i * 19) (partOf P i)
  brok : ∀ i, i < R.length → BrokAt w Rb (i * 13) (brokOf R i)
  plen : P.length ≤ 1000
  rlen : R.length ≤ 1000
  racks : ∀ i, i < P.length → (partOf P i).2.2.length ≤ 1000
  held : ∀ i, i < R.length → (brokOf R i).2.length ≤ 1000
  refs : ∀ i, i < R.length → ∀ k, k < (brokOf R i).2.length → ∃ j : Nat, (brokOf R i).2.getD k 0 = j ∧ j < P.length

theorem NetAt.keeps {w w' : World} (hb : Below w.heap.size w w') {N Pb pcap Rb rcap : Nat} {P : List PartD} {R : List BrokD} {u : Int} (h : NetAt w N Pb pcap Rb rcap P R u) : NetAt w' N Pb pcap Rb rcap P R u :=
  ⟨cell_keeps hb h.parts, cell_keeps hb h.brokers, cell_keeps hb h.unm, fun i hi => (h.part i hi).keeps hb, fun i hi => (h.brok i hi).keeps hb, h.plen, h.rlen, h.racks, h.held, h.refs⟩

/-- How directly a broker's replicas lead to one that must leave its rack: the loop of 'mender'. -/
def scan (P : List PartD) (rack t : Int) : List Int → Int → Int
  | [], rank => rank
  | p :: ps, rank =>
    match mendsB (partOf P p.toNat) rack with
    | true => if (partOf P p.toNat).1 == t then 0 else scan P rack t ps 1
    | false => scan P rack t ps rank

theorem drop_cons {l : List Int} {k : Nat} (h : k < l.length) : l.drop k = l.getD k 0 :: l.drop (k + 1) := by
  rw [List.drop_eq_getElem_cons h]; simp [List.getD, h]

theorem scan_no {P : List PartD} {rack t rank : Int} {l : List Int} {k j : Nat} (h : k < l.length) (hj : l.getD k 0 = j) (hm : mendsB (partOf P j) rack = false) :
    scan P rack t (l.drop k) rank = scan P rack t (l.drop (k + 1)) rank := by
  rw [drop_cons h, hj]; simp [scan, hm]
theorem scan_hit {P : List PartD} {rack t rank : Int} {l : List Int} {k j : Nat} (h : k < l.length) (hj : l.getD k 0 = j) (hm : mendsB (partOf P j) rack = true) (ht : ((partOf P j).1 == t) = true) :
    scan P rack t (l.drop k) rank = 0 := by
  rw [drop_cons h, hj]; simp [scan, hm, ht]
theorem scan_one {P : List PartD} {rack t rank : Int} {l : List Int} {k j : Nat} (h : k < l.length) (hj : l.getD k 0 = j) (hm : mendsB (partOf P j) rack = true) (ht : ((partOf P j).1 == t) = false) :
    scan P rack t (l.drop k) rank = scan P rack t (l.drop (k + 1)) 1 := by
  rw [drop_cons h, hj]; simp [scan, hm, ht]

theorem keep4 {w w1 w' : World} {a b c : Addr} {x y z : Value} (h : w1.cell? a = some x ∧ w1.cell? b = some y ∧ w1.cell? c = some z ∧ Below w.heap.size w w1) (hb : Below w1.heap.size w1 w') :
    w'.cell? a = some x ∧ w'.cell? b = some y ∧ w'.cell? c = some z ∧ Below w.heap.size w w' :=
  ⟨cell_keeps hb h.1, cell_keeps hb h.2.1, cell_keeps hb h.2.2.1, h.2.2.2.trans (hb.mono h.2.2.2.size)⟩
theorem start4 {w w1 : World} {a b c : Addr} {x y z : Value} (h1 : w1.cell? a = some x) (h2 : w1.cell? b = some y) (h3 : w1.cell? c = some z) (h : Below w.heap.size w w1) :
    w1.drew.cell? a = some x ∧ w1.drew.cell? b = some y ∧ w1.drew.cell? c = some z ∧ Below w.heap.size w w1.drew := ⟨h1, h2, h3, h.drew⟩
theorem below4 {w w1 : World} (A B C : Addr) (x y z : Value) (h : w1.cell? A = some x ∧ w1.cell? B = some y ∧ w1.cell? C = some z ∧ Below w.heap.size w w1) : Below w.heap.size w w1 := h.2.2.2

set_option maxHeartbeats 4000000 in
set_option maxRecDepth 100000 in
theorem mender_broker (N Pb pcap Rb rcap : Nat) (P : List PartD) (R : List BrokD) (u : Int) (w : World) (hn : NetAt w N Pb pcap Rb rcap P R u) (hu : (u == 0) = false) (bi : Nat) (c : Int) (hbi : bi < R.length) :
    Calls Yba.prog 16 #[.pointer (some ⟨N, 0, none⟩), .agg #[.int .u8 2, .int .i32 bi, .int .i32 c], .bool false] w fun e w' => e = .returned (.int .i64 (scan P (brokOf R bi).1 (-1) (brokOf R bi).2 2)) ∧ Below w.heap.size w w' := by
  have h1 := hn.parts
  have h2 := hn.brokers
  have h3 := hn.unm
  have hlp := hn.plen
  have hlr := hn.rlen
  obtain ⟨h4, h5, pb, cap, h6, h7⟩ := hn.brok bi hbi
  have hheld := hn.held bi hbi
  have hrefs := hn.refs bi hbi
  have hbi1 : (bi : Int) < (R.length : Int) := by omega
  have hbi0 : (0 : Int) ≤ (bi : Int) := by omega
  generalize (brokOf R bi).1 = rack at h4
  generalize (brokOf R bi).2 = ps at h6 h7 hheld hrefs
  clear h5
  have hN : N < w.heap.size := World.block_lt_of_cell? _ _ h1
  have hRb : Rb < w.heap.size := World.block_lt_of_cell? _ _ h4
  go_enter Yba.func16, Yba.ntmps16
  go_wp2
  go_quiet (fail)
  go_wp2
  go_quiet (fail)
  go_wp2
  go_loopw [9, 55] (fun s i wr => ∃ (k : Nat) (rk : Int), k ≤ ps.length ∧ i = .int .i64 k ∧ s = .int .i64 rk ∧ scan P rack (-1) (ps.drop k) rk = scan P rack (-1) ps 2 ∧ Below w.heap.size w wr) (fun _ i _ => ps.length - (intOf i).toNat)
  case atStart => exact ⟨0, 2, Nat.zero_le _, rfl, rfl, rfl, below_drewN ((Below.refl _ _).alloc (Nat.le_refl _) _) _⟩
  case round =>
    obtain ⟨k, rk, hk, rfl, rfl, hsc, hnx⟩ := hrel
    by_cases hlt : k < ps.length
    · obtain ⟨j, hj, hjl⟩ := hrefs k hlt
      have c0 := cell_keeps hnx (h7 k hlt)
      rw [hj] at c0
      have c1 := cell_keeps hnx h1
      have c2 := cell_keeps hnx h2
      have c4 := cell_keeps hnx h4
      have ct := (hn.part j hjl).1
      have hpart := hn.part j hjl
      have hrk := hn.racks j hjl
      have a0 : (0 : Int) ≤ (j : Int) := by omega
      have a1 : (j : Int) < (P.length : Int) := by omega
      have a2 : (k : Int) < (ps.length : Int) := by omega
      have HJ : Hid (ps.getD k 0 = j) := hj
      have HC : Hid (scan P rack (-1) (ps.drop k) rk = scan P rack (-1) ps 2) := hsc
      clear hj h7 hrefs hsc
      go_wp2_with fail
      go_region_held3 (fun w' => w'.cell? ⟨N, 0, none⟩ = some (.slice (some ⟨Pb, 0, none⟩) P.length pcap) ∧ w'.cell? ⟨N, 1, none⟩ = some (.slice (some ⟨Rb, 0, none⟩) R.length rcap) ∧ w'.cell? ⟨Rb, bi * 13, none⟩ = some (.int .i32 rack) ∧ Below w.heap.size w w')
        (first | exact start4 c1 c2 c4 hnx | exact keep4 (by assumption) hb)
        (first | (go_at_call 38; refine (mendsFrom_any Pb (j * 19) (partOf P j) rack _ (hpart.keeps (below4 ⟨N, 0, none⟩ ⟨N, 1, none⟩ ⟨Rb, bi * 13, none⟩ _ _ _ (by assumption))) hrk).mono ?_; rintro e w' ⟨rfl, hb⟩))
      have hS : Below w.heap.size w w' := below4 ⟨N, 0, none⟩ ⟨N, 1, none⟩ ⟨Rb, bi * 13, none⟩ _ _ _ (by assumption)
      have q1 := cell_keeps hS h1
      have q2 := cell_keeps hS ct
      clear c0 c1 c2 c4 ct
      cases hm : mendsB (partOf P j) rack with
      | false =>
        go_wp2
        go_roundw
        case rel => exact ⟨k + 1, rk, by omega, by go_num, rfl, (scan_no hlt HJ.out hm).symm.trans HC.out, hS⟩
        case measure => simp [intOf]; omega
      | true =>
        cases ht : ((partOf P j).1 == -1) with
        | true =>
          go_wp2
          go_ret
          exact ⟨ret_int ((scan_hit hlt HJ.out hm ht).symm.trans HC.out), hS⟩
        | false =>
          go_wp2
          go_roundw
          case rel => exact ⟨k + 1, 1, by omega, by go_num, rfl, (scan_one hlt HJ.out hm ht).symm.trans HC.out, hS⟩
          case measure => simp [intOf]; omega
    · go_wp2
      go_ret
      have e : ps.drop k = [] := List.drop_eq_nil_of_le (by omega)
      rw [e] at hsc
      exact ⟨ret_int hsc, hnx⟩

end Go.Proofs.Ybulkkru.net

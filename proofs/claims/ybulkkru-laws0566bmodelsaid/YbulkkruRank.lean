import Derived.Test.YbulkkruMender
namespace Go.Proofs.Ybulkkru.net
open Go.RowKit
set_option linter.unusedVariables false

set_option maxHeartbeats 1000000 in
theorem mender_back (N : Nat) (x y z : Value) (w : World) :
    Calls Yba.prog 16 #[.pointer (some ⟨N, 0, none⟩), .agg #[x, y, z], .bool true] w fun e w' => e = .returned (.int .i64 2) ∧ Below w.heap.size w w' := by
  go_enter Yba.func16, Yba.ntmps16
  go_wp2
  go_ret
  exact ⟨rfl, (Below.refl _ _).alloc (Nat.le_refl _) _⟩

set_option maxHeartbeats 1000000 in
theorem mender_none (N : Nat) (x y z : Value) (w : World) (h : w.cell? ⟨N, 20, none⟩ = some (.int .i64 0)) :
    Calls Yba.prog 16 #[.pointer (some ⟨N, 0, none⟩), .agg #[x, y, z], .bool false] w fun e w' => e = .returned (.int .i64 2) ∧ Below w.heap.size w w' := by
  have hN : N < w.heap.size := World.block_lt_of_cell? _ _ h
  go_enter Yba.func16, Yba.ntmps16
  go_wp2
  go_ret
  exact ⟨rfl, (Below.refl _ _).alloc (Nat.le_refl _) _⟩

/-- What 'mender' answers at a broker, searching forward. -/
def menderAt (P : List PartD) (R : List BrokD) (u : Int) (bi : Nat) : Int :=
  match u == 0 with | true => 2 | false => scan P (brokOf R bi).1 (-1) (brokOf R bi).2 2

theorem mender_at (N Pb pcap Rb rcap : Nat) (P : List PartD) (R : List BrokD) (u : Int) (w : World) (hn : NetAt w N Pb pcap Rb rcap P R u) (bi : Nat) (c : Int) (hbi : bi < R.length) :
    Calls Yba.prog 16 #[.pointer (some ⟨N, 0, none⟩), .agg #[.int .u8 2, .int .i32 bi, .int .i32 c], .bool false] w fun e w' => e = .returned (.int .i64 (menderAt P R u bi)) ∧ Below w.heap.size w w' := by
  cases hu : u == 0 with
  | false => simp only [menderAt, hu]; exact mender_broker N Pb pcap Rb rcap P R u w hn hu bi c hbi
  | true =>
    simp only [menderAt, hu]
    have h := hn.unm
    rw [show u = 0 by simpa using hu] at h
    exact mender_none N _ _ _ w h

theorem keep5 {w w1 w' : World} {a b c d : Addr} {x y z t : Value} (h : w1.cell? a = some x ∧ w1.cell? b = some y ∧ w1.cell? c = some z ∧ w1.cell? d = some t ∧ Below w.heap.size w w1) (hb : Below w1.heap.size w1 w') :
    w'.cell? a = some x ∧ w'.cell? b = some y ∧ w'.cell? c = some z ∧ w'.cell? d = some t ∧ Below w.heap.size w w' :=
  ⟨cell_keeps hb h.1, cell_keeps hb h.2.1, cell_keeps hb h.2.2.1, cell_keeps hb h.2.2.2.1, h.2.2.2.2.trans (hb.mono h.2.2.2.2.size)⟩
theorem start5 {w : World} {o : Obj} {a b c d : Addr} {x y z t : Value} (h1 : w.cell? a = some x) (h2 : w.cell? b = some y) (h3 : w.cell? c = some z) (h4 : w.cell? d = some t) :
    (w.alloc o).drew.cell? a = some x ∧ (w.alloc o).drew.cell? b = some y ∧ (w.alloc o).drew.cell? c = some z ∧ (w.alloc o).drew.cell? d = some t ∧ Below w.heap.size w (w.alloc o).drew := by
  have hb : Below w.heap.size w (w.alloc o).drew := ((Below.refl _ _).alloc (Nat.le_refl _) _).drew
  exact ⟨cell_keeps hb h1, cell_keeps hb h2, cell_keeps hb h3, cell_keeps hb h4, hb⟩
theorem cell_set_new {w w1 : World} {a p : Addr} {x v : Value} (ha : a.block < w.heap.size) (hp : p.block = w.heap.size) (h : w1.cell? a = some x) : (w1.setCell p v).cell? a = some x := by
  rw [← h]
  apply World.cell?_setCell_other
  rintro rfl
  omega
theorem keepR {w w1 : World} {Rb o1 o2 o3 o4 n : Nat} {x y z t v0 v1 v2 v3 v4 : Value} (hR : Rb < w.heap.size) (hn : n = w.heap.size)
    (h : w1.cell? ⟨Rb, o1, none⟩ = some x ∧ w1.cell? ⟨Rb, o2, none⟩ = some y ∧ w1.cell? ⟨Rb, o3, none⟩ = some z ∧ w1.cell? ⟨Rb, o4, none⟩ = some t ∧ Below w.heap.size w w1) :
    (((((w1.setCell ⟨n, 0, none⟩ v0).setCell ⟨n, 1, none⟩ v1).setCell ⟨n, 2, none⟩ v2).setCell ⟨n, 3, none⟩ v3).setCell ⟨n, 4, none⟩ v4).cell? ⟨Rb, o1, none⟩ = some x ∧
    (((((w1.setCell ⟨n, 0, none⟩ v0).setCell ⟨n, 1, none⟩ v1).setCell ⟨n, 2, none⟩ v2).setCell ⟨n, 3, none⟩ v3).setCell ⟨n, 4, none⟩ v4).cell? ⟨Rb, o2, none⟩ = some y ∧
    (((((w1.setCell ⟨n, 0, none⟩ v0).setCell ⟨n, 1, none⟩ v1).setCell ⟨n, 2, none⟩ v2).setCell ⟨n, 3, none⟩ v3).setCell ⟨n, 4, none⟩ v4).cell? ⟨Rb, o3, none⟩ = some z ∧
    (((((w1.setCell ⟨n, 0, none⟩ v0).setCell ⟨n, 1, none⟩ v1).setCell ⟨n, 2, none⟩ v2).setCell ⟨n, 3, none⟩ v3).setCell ⟨n, 4, none⟩ v4).cell? ⟨Rb, o4, none⟩ = some t ∧
    Below w.heap.size w (((((w1.setCell ⟨n, 0, none⟩ v0).setCell ⟨n, 1, none⟩ v1).setCell ⟨n, 2, none⟩ v2).setCell ⟨n, 3, none⟩ v3).setCell ⟨n, 4, none⟩ v4) := by
  subst hn
  have e : ∀ (o : Nat) (q : Value), w1.cell? ⟨Rb, o, none⟩ = some q → (((((w1.setCell ⟨w.heap.size, 0, none⟩ v0).setCell ⟨w.heap.size, 1, none⟩ v1).setCell ⟨w.heap.size, 2, none⟩ v2).setCell ⟨w.heap.size, 3, none⟩ v3).setCell ⟨w.heap.size, 4, none⟩ v4).cell? ⟨Rb, o, none⟩ = some q :=
    fun o q h => cell_set_new hR rfl (cell_set_new hR rfl (cell_set_new hR rfl (cell_set_new hR rfl (cell_set_new hR rfl h))))
  exact ⟨e _ _ h.1, e _ _ h.2.1, e _ _ h.2.2.1, e _ _ h.2.2.2.1, ((((h.2.2.2.2.setCell (Nat.le_refl _) _).setCell (Nat.le_refl _) _).setCell (Nat.le_refl _) _).setCell (Nat.le_refl _) _).setCell (Nat.le_refl _) _⟩
theorem below5 {w w1 : World} (A B C D : Addr) (x y z t : Value) (h : w1.cell? A = some x ∧ w1.cell? B = some y ∧ w1.cell? C = some z ∧ w1.cell? D = some t ∧ Below w.heap.size w w1) : Below w.heap.size w w1 := h.2.2.2.2

/-- The block that was laid first stands behind a call that turns nothing old. -/
theorem res_block {w w1 : World} {cs : Array Value} {t : TypeId} (hb : Below (w.alloc (.cells cs t)).drew.heap.size (w.alloc (.cells cs t)).drew w1) : w1.heap[w.heap.size]? = some (.cells cs t (0, 0)) :=
  (hb.block _ (by show w.heap.size < (w.alloc _).heap.size; simp)).trans (heap_alloc_new w _)
theorem res_below {w w1 : World} {cs : Array Value} {t : TypeId} (hb : Below (w.alloc (.cells cs t)).drew.heap.size (w.alloc (.cells cs t)).drew w1) : Below w.heap.size w w1 :=
  ((Below.refl _ _).alloc (Nat.le_refl _) _).drew.trans (hb.mono (by show w.heap.size ≤ (w.alloc _).heap.size; simp))
theorem res_cell {w1 : World} {n i : Nat} {cs : Array Value} {t : TypeId} {v : Value} (h : w1.heap[n]? = some (.cells cs t (0, 0))) (hv : cs[i]? = some v) : w1.cell? ⟨n, i, none⟩ = some v := by simp [World.cell?, h, hv]
theorem res_free {w1 : World} {n i : Nat} {cs : Array Value} {t : TypeId} (h : w1.heap[n]? = some (.cells cs t (0, 0))) : w1.frozen? ⟨n, i, none⟩ = false := by simp [World.frozen?, h]

set_option maxHeartbeats 2000000 in
set_option maxRecDepth 100000 in
theorem rankOf_any (N Pb pcap Rb rcap : Nat) (P : List PartD) (R : List BrokD) (u : Int) (w : World) (hn : NetAt w N Pb pcap Rb rcap P R u) (bi : Nat) (hbi : bi < R.length) :
    Calls Yba.prog 18 #[.pointer (some ⟨N, 0, none⟩), .int .i32 bi] w fun e w' => e = .returned (.agg #[.int .i64 0, .int .i64 0, .int .i64 0, .int .i64 (menderAt P R u bi), .int .i64 ((brokOf R bi).2.length : Nat)]) ∧ Below w.heap.size w w' := by
  have h2 := hn.brokers
  have hlr := hn.rlen
  obtain ⟨h4, ⟨h51, h52, h53⟩, pb, cap, h6, h7⟩ := hn.brok bi hbi
  have hheld := hn.held bi hbi
  have hbi1 : (bi : Int) < (R.length : Int) := by omega
  have hbi0 : (0 : Int) ≤ (bi : Int) := by omega
  have hN : N < w.heap.size := World.block_lt_of_cell? _ _ h2
  have hRb : Rb < w.heap.size := World.block_lt_of_cell? _ _ h4
  clear h4 h7
  go_enter Yba.func18, Yba.ntmps18
  go_wp2
  go_region_held3 (fun w' => w'.cell? ⟨Rb, bi * 13 + 5, none⟩ = some (.int .i64 0) ∧ w'.cell? ⟨Rb, bi * 13 + 6, none⟩ = some (.int .i64 0) ∧ w'.cell? ⟨Rb, bi * 13 + 7, none⟩ = some (.int .i64 0) ∧ w'.cell? ⟨Rb, bi * 13 + 3, none⟩ = some (.slice (some ⟨pb, 0, none⟩) (brokOf R bi).2.length cap) ∧ Below w.heap.size w w')
    (first | with_reducible exact start5 h51 h52 h53 h6 | with_reducible exact keepR hRb rfl (by assumption) | with_reducible exact keep5 (by assumption) hb)
    (first | (go_at_call 16; refine (mender_at N Pb pcap Rb rcap P R u _ (hn.keeps (below5 ⟨Rb, bi * 13 + 5, none⟩ ⟨Rb, bi * 13 + 6, none⟩ ⟨Rb, bi * 13 + 7, none⟩ ⟨Rb, bi * 13 + 3, none⟩ _ _ _ _ (by assumption))) bi 0 hbi).mono ?_; rintro e w' ⟨rfl, hb⟩; have hres : Hid _ := res_block hb; have r0 := res_cell (i := 0) hres.out rfl; have r1 := res_cell (i := 1) hres.out rfl; have r2 := res_cell (i := 2) hres.out rfl; have r3 := res_cell (i := 3) hres.out rfl; have r4 := res_cell (i := 4) hres.out rfl; have g0 := res_free (i := 0) hres.out; have g1 := res_free (i := 1) hres.out; have g2 := res_free (i := 2) hres.out; have g3 := res_free (i := 3) hres.out; have g4 := res_free (i := 4) hres.out))
  have hS : Below w.heap.size w w' := res_below hb
  go_wp2
  refine bodyPost_ret (v := .agg #[.int .i64 0, .int .i64 0, .int .i64 0, .int .i64 (menderAt P R u bi), .int .i64 ((brokOf R bi).2.length : Nat)]) (by simp [results, Yba.results18, go_sem, r0, r1, r2, r3, r4]) rfl ⟨rfl, ?_⟩
  exact ((((hS.setCell (Nat.le_refl _) _).setCell (Nat.le_refl _) _).setCell (Nat.le_refl _) _).setCell (Nat.le_refl _) _).setCell (Nat.le_refl _) _

end Go.Proofs.Ybulkkru.net

import Derived.Test.YbulkkruNet
import Derived.Deep.RegionHeld3
import Derived.Deep.QuietTactic
import Derived.BigQuiet
namespace Go.Proofs.Ybulkkru.cst
open Go.RowKit Go.Proofs.Ybulkkru.net
set_option linter.unusedVariables false

/-- A cost in a frame: three numbers. -/
def agg3 (x y z : Int) : Value := .agg #[.int .i64 x, .int .i64 y, .int .i64 z]

set_option maxHeartbeats 1000000 in
theorem plus_any (a0 a1 a2 b0 b1 b2 : Int) (w : World) :
    Calls Yba.prog 40 #[.agg #[.int .i64 a0, .int .i64 a1, .int .i64 a2], .agg #[.int .i64 b0, .int .i64 b1, .int .i64 b2]] w fun e w' =>
      e = .returned (.agg #[.int .i64 (wrap64 (a0 + b0)), .int .i64 (wrap64 (a1 + b1)), .int .i64 (wrap64 (a2 + b2))]) ∧ Below w.heap.size w w' := by
  go_enter Yba.func40, Yba.ntmps40
  go_wp2
  refine bodyPost_ret (v := .agg #[.int .i64 (wrap64 (a0 + b0)), .int .i64 (wrap64 (a1 + b1)), .int .i64 (wrap64 (a2 + b2))]) (by simp [results, Yba.results40, go_sem]) rfl ⟨rfl, ?_⟩
  exact (((Below.refl _ _).alloc (Nat.le_refl _) _).alloc (by simp) _).alloc (by simp; omega) _

set_option maxHeartbeats 1000000 in
theorem minus_any (a0 a1 a2 b0 b1 b2 : Int) (w : World) :
    Calls Yba.prog 25 #[.agg #[.int .i64 a0, .int .i64 a1, .int .i64 a2], .agg #[.int .i64 b0, .int .i64 b1, .int .i64 b2]] w fun e w' =>
      e = .returned (.agg #[.int .i64 (wrap64 (a0 - b0)), .int .i64 (wrap64 (a1 - b1)), .int .i64 (wrap64 (a2 - b2))]) ∧ Below w.heap.size w w' := by
  go_enter Yba.func25, Yba.ntmps25
  go_wp2
  refine bodyPost_ret (v := .agg #[.int .i64 (wrap64 (a0 - b0)), .int .i64 (wrap64 (a1 - b1)), .int .i64 (wrap64 (a2 - b2))]) (by simp [results, Yba.results25, go_sem]) rfl ⟨rfl, ?_⟩
  exact (((Below.refl _ _).alloc (Nat.le_refl _) _).alloc (by simp) _).alloc (by simp; omega) _

set_option maxHeartbeats 1000000 in
theorem cmk_any (a0 a1 a2 : Int) (w : World) :
    Calls Yba.prog 21 #[.agg #[.int .i64 a0, .int .i64 a1, .int .i64 a2]] w fun e w' => e = .returned (.agg #[.int .i64 a0, .int .i64 a1, .int .i64 a2]) ∧ Below w.heap.size w w' := by
  go_enter Yba.func21, Yba.ntmps21
  go_wp2
  refine bodyPost_ret (v := .agg #[.int .i64 a0, .int .i64 a1, .int .i64 a2]) (by simp [results, Yba.results21, go_sem]) rfl ⟨rfl, ?_⟩
  exact ((Below.refl _ _).alloc (Nat.le_refl _) _).alloc (by simp) _

/-- The order of costs, field by field. -/
def ltB (a0 a1 a2 b0 b1 b2 : Int) : Bool :=
  match a0 == b0 with
  | false => decide (a0 < b0)
  | true => match a1 == b1 with
    | false => decide (a1 < b1)
    | true => decide (a2 < b2)

set_option maxHeartbeats 1000000 in
theorem clt_any (a0 a1 a2 b0 b1 b2 : Int) (w : World) :
    Calls Yba.prog 22 #[.agg #[.int .i64 a0, .int .i64 a1, .int .i64 a2], .agg #[.int .i64 b0, .int .i64 b1, .int .i64 b2]] w fun e w' => e = .returned (.bool (ltB a0 a1 a2 b0 b1 b2)) ∧ Below w.heap.size w w' := by
  have hb : ∀ o1 o2, Below w.heap.size w ((w.alloc o1).alloc o2) := fun o1 o2 => ((Below.refl _ _).alloc (Nat.le_refl _) _).alloc (by simp) _
  cases h0 : a0 == b0 with
  | false =>
    have HL : Hid (ltB a0 a1 a2 b0 b1 b2 = decide (a0 < b0)) := show _ = _ by simp [ltB, h0]
    go_enter Yba.func22, Yba.ntmps22
    go_wp2
    go_ret
    exact ⟨by rw [HL.out]; rfl, hb _ _⟩
  | true =>
    cases h1 : a1 == b1 with
    | false =>
      have HL : Hid (ltB a0 a1 a2 b0 b1 b2 = decide (a1 < b1)) := show _ = _ by simp [ltB, h0, h1]
      go_enter Yba.func22, Yba.ntmps22
      go_wp2
      go_ret
      exact ⟨by rw [HL.out]; rfl, hb _ _⟩
    | true =>
      have HL : Hid (ltB a0 a1 a2 b0 b1 b2 = decide (a2 < b2)) := show _ = _ by simp [ltB, h0, h1]
      go_enter Yba.func22, Yba.ntmps22
      go_wp2
      go_ret
      exact ⟨by rw [HL.out]; rfl, hb _ _⟩

/-- 'cmp.Compare' at ints. -/
def cmpI (x y : Int) : Int := if x < y then -1 else if y < x then 1 else 0

theorem nan_int (x : Int) (w : World) : Calls Yba.prog 68 #[.int .i64 x] w fun e w' => e = .returned (.bool false) ∧ w' = w := by
  go_enter Yba.func68, Yba.ntmps68
  go_wp2
  go_ret
  exact ⟨rfl, rfl⟩

set_option maxHeartbeats 1000000 in
theorem compareInt_any (x y : Int) (w : World) : Calls Yba.prog 46 #[.int .i64 x, .int .i64 y] w fun e w' => e = .returned (.int .i64 (cmpI x y)) ∧ w' = w := by
  by_cases h1 : x < y
  · have HC : Hid (cmpI x y = -1) := show _ = _ by simp [cmpI, h1]
    go_enter Yba.func46, Yba.ntmps46
    go_wp2_with (go_at_call 68; refine (nan_int _ _).mono ?_; rintro e w' ⟨rfl, rfl⟩)
    go_ret
    exact ⟨by rw [HC.out]; rfl, rfl⟩
  · by_cases h2 : y < x
    · have HC : Hid (cmpI x y = 1) := show _ = _ by simp [cmpI, h1, h2]
      go_enter Yba.func46, Yba.ntmps46
      go_wp2_with (go_at_call 68; refine (nan_int _ _).mono ?_; rintro e w' ⟨rfl, rfl⟩)
      go_ret
      exact ⟨by rw [HC.out]; rfl, rfl⟩
    · have HC : Hid (cmpI x y = 0) := show _ = _ by simp [cmpI, h1, h2]
      go_enter Yba.func46, Yba.ntmps46
      go_wp2_with (go_at_call 68; refine (nan_int _ _).mono ?_; rintro e w' ⟨rfl, rfl⟩)
      go_ret
      exact ⟨by rw [HC.out]; rfl, rfl⟩

/-- 'cmp.Or': the first that is not nought. -/
def orL : List Int → Int
  | [] => 0
  | x :: l => match x == 0 with | true => orL l | false => x

theorem dropI {l : List Int} {k : Nat} (h : k < l.length) : l.drop k = l.getD k 0 :: l.drop (k + 1) := by
  rw [List.drop_eq_getElem_cons h]; simp [List.getD, h]
theorem orL_skip {l : List Int} {k : Nat} (h : k < l.length) (h0 : (l.getD k 0 == 0) = true) : orL (l.drop k) = orL (l.drop (k + 1)) := by
  rw [dropI h]; simp only [orL, h0]
theorem orL_hit {l : List Int} {k : Nat} (h : k < l.length) (h0 : (l.getD k 0 == 0) = false) : orL (l.drop k) = l.getD k 0 := by
  rw [dropI h]; simp only [orL, h0]

set_option maxHeartbeats 1000000 in
theorem or_any (b cap : Nat) (l : List Int) (w : World) (hl : l.length ≤ 1000) (hc : ∀ k, k < l.length → w.cell? ⟨b, k, none⟩ = some (.int .i64 (l.getD k 0))) :
    Calls Yba.prog 30 #[.slice (some ⟨b, 0, none⟩) l.length cap] w fun e w' => e = .returned (.int .i64 (orL l)) ∧ w' = w := by
  go_enter Yba.func30, Yba.ntmps30
  go_wp2
  go_loop [8] (fun i => ∃ k : Nat, k ≤ l.length ∧ i = .int .i64 k ∧ orL (l.drop k) = orL l) (fun i => l.length - (intOf i).toNat)
  case atStart => exact ⟨0, Nat.zero_le _, rfl, rfl⟩
  case round =>
    obtain ⟨k, hk, rfl, hor⟩ := hrel
    have HO : Hid (orL (l.drop k) = orL l) := hor
    clear hor
    by_cases hlt : k < l.length
    · have c0 := hc k hlt
      cases h0 : (l.getD k 0 == 0) with
      | true =>
        have HS : Hid _ := orL_skip hlt h0
        generalize l.getD k 0 = x at c0 h0
        clear hc
        go_wp2
        go_round
        case rel => exact ⟨k + 1, by omega, by go_num, HS.out.symm.trans HO.out⟩
        case measure => simp [intOf]; omega
      | false =>
        have HS : Hid _ := orL_hit hlt h0
        generalize l.getD k 0 = x at c0 h0 HS
        clear hc
        go_wp2
        go_ret
        exact ⟨ret_int (HS.out.symm.trans HO.out), rfl⟩
    · have e : l.drop k = [] := List.drop_eq_nil_of_le (by omega)
      have HE : Hid (orL l = 0) := show _ = _ by rw [← HO.out, e]; rfl
      clear e hc
      go_wp2
      go_ret
      exact ⟨ret_int HE.out.symm, rfl⟩

/-- What 'cost.compare' answers. -/
def cmp3 (a0 a1 a2 b0 b1 b2 : Int) : Int := orL [cmpI a0 b0, cmpI a1 b1, cmpI a2 b2]

theorem or3_any (b : Nat) (x y z : Int) (w : World) (h0 : w.cell? ⟨b, 0, none⟩ = some (.int .i64 x)) (h1 : w.cell? ⟨b, 1, none⟩ = some (.int .i64 y)) (h2 : w.cell? ⟨b, 2, none⟩ = some (.int .i64 z)) :
    Calls Yba.prog 30 #[.slice (some ⟨b, 0, none⟩) 3 3] w fun e w' => e = .returned (.int .i64 (orL [x, y, z])) ∧ w' = w :=
  or_any b 3 [x, y, z] w (by simp) (fun k hk => match k, hk with | 0, _ => h0 | 1, _ => h1 | 2, _ => h2)

/-- Two costs, boxed one behind the other. -/
def Two (p : Nat) (a0 a1 a2 b0 b1 b2 : Int) (w : World) : Prop :=
  w.cell? ⟨p, 0, none⟩ = some (.int .i64 a0) ∧ w.cell? ⟨p, 1, none⟩ = some (.int .i64 a1) ∧ w.cell? ⟨p, 2, none⟩ = some (.int .i64 a2) ∧
  w.cell? ⟨p + 1, 0, none⟩ = some (.int .i64 b0) ∧ w.cell? ⟨p + 1, 1, none⟩ = some (.int .i64 b1) ∧ w.cell? ⟨p + 1, 2, none⟩ = some (.int .i64 b2)
theorem two_start (w : World) (a0 a1 a2 b0 b1 b2 : Int) (t t' : TypeId) :
    Two w.heap.size a0 a1 a2 b0 b1 b2 ((w.alloc (.cells #[.int .i64 a0, .int .i64 a1, .int .i64 a2] t)).alloc (.cells #[.int .i64 b0, .int .i64 b1, .int .i64 b2] t')) := by
  have hs : (w.alloc (.cells #[.int .i64 a0, .int .i64 a1, .int .i64 a2] t)).heap.size = w.heap.size + 1 := by simp
  have o : ∀ i v, (w.alloc (.cells #[.int .i64 a0, .int .i64 a1, .int .i64 a2] t)).cell? ⟨w.heap.size, i, none⟩ = some v → ((w.alloc (.cells #[.int .i64 a0, .int .i64 a1, .int .i64 a2] t)).alloc (.cells #[.int .i64 b0, .int .i64 b1, .int .i64 b2] t')).cell? ⟨w.heap.size, i, none⟩ = some v :=
    fun i v h => (World.cell?_alloc_past _ _ _ (by omega)).trans h
  have n : ∀ i, ((w.alloc (.cells #[.int .i64 a0, .int .i64 a1, .int .i64 a2] t)).alloc (.cells #[.int .i64 b0, .int .i64 b1, .int .i64 b2] t')).cell? ⟨w.heap.size + 1, i, none⟩ = #[Value.int .i64 b0, .int .i64 b1, .int .i64 b2][i]? :=
    fun i => World.cell?_alloc_at _ _ _ _ hs.symm
  exact ⟨o 0 _ (World.cell?_alloc_at _ _ _ _ rfl), o 1 _ (World.cell?_alloc_at _ _ _ _ rfl), o 2 _ (World.cell?_alloc_at _ _ _ _ rfl), n 0, n 1, n 2⟩

theorem keep6a {w w1 : World} {o : Obj} {a b c d f g : Addr} {x y z t u v : Value} (h : w1.cell? a = some x ∧ w1.cell? b = some y ∧ w1.cell? c = some z ∧ w1.cell? d = some t ∧ w1.cell? f = some u ∧ w1.cell? g = some v ∧ Below w.heap.size w w1) :
    (w1.alloc o).drew.cell? a = some x ∧ (w1.alloc o).drew.cell? b = some y ∧ (w1.alloc o).drew.cell? c = some z ∧ (w1.alloc o).drew.cell? d = some t ∧ (w1.alloc o).drew.cell? f = some u ∧ (w1.alloc o).drew.cell? g = some v ∧ Below w.heap.size w (w1.alloc o).drew := by
  have hb : Below w1.heap.size w1 (w1.alloc o).drew := ((Below.refl _ _).alloc (Nat.le_refl _) _).drew
  exact ⟨cell_keeps hb h.1, cell_keeps hb h.2.1, cell_keeps hb h.2.2.1, cell_keeps hb h.2.2.2.1, cell_keeps hb h.2.2.2.2.1, cell_keeps hb h.2.2.2.2.2.1, (h.2.2.2.2.2.2.alloc h.2.2.2.2.2.2.size _).drew⟩
theorem keep6s {w w1 : World} {a b c d f g : Addr} {x y z t u v : Value} (h : w1.cell? a = some x ∧ w1.cell? b = some y ∧ w1.cell? c = some z ∧ w1.cell? d = some t ∧ w1.cell? f = some u ∧ w1.cell? g = some v ∧ Below w.heap.size w w1) :
    w1.drew.cell? a = some x ∧ w1.drew.cell? b = some y ∧ w1.drew.cell? c = some z ∧ w1.drew.cell? d = some t ∧ w1.drew.cell? f = some u ∧ w1.drew.cell? g = some v ∧ Below w.heap.size w w1.drew :=
  ⟨h.1, h.2.1, h.2.2.1, h.2.2.2.1, h.2.2.2.2.1, h.2.2.2.2.2.1, h.2.2.2.2.2.2.drew⟩
theorem newc {w : World} {cs : Array Value} {t : TypeId} {i : Nat} {v : Value} (h : cs[i]? = some v) : (w.alloc (.cells cs t)).drew.cell? ⟨w.heap.size, i, none⟩ = some v := (World.cell?_alloc_at cs t w.heap.size i rfl).trans h

set_option maxHeartbeats 2000000 in
set_option maxRecDepth 100000 in
theorem compare_any (a0 a1 a2 b0 b1 b2 : Int) (w : World) :
    Calls Yba.prog 31 #[.agg #[.int .i64 a0, .int .i64 a1, .int .i64 a2], .agg #[.int .i64 b0, .int .i64 b1, .int .i64 b2]] w fun e w' => e = .returned (.int .i64 (cmp3 a0 a1 a2 b0 b1 b2)) ∧ Below w.heap.size w w' := by
  go_enter Yba.func31, Yba.ntmps31
  go_wp2
  generalize hw2 : (w.alloc (.cells #[.int .i64 a0, .int .i64 a1, .int .i64 a2] 28)).alloc (.cells #[.int .i64 b0, .int .i64 b1, .int .i64 b2] 28) = w2
  have F : w2.cell? ⟨w.heap.size, 0, none⟩ = some (.int .i64 a0) ∧ w2.cell? ⟨w.heap.size, 1, none⟩ = some (.int .i64 a1) ∧ w2.cell? ⟨w.heap.size, 2, none⟩ = some (.int .i64 a2) ∧
      w2.cell? ⟨w.heap.size + 1, 0, none⟩ = some (.int .i64 b0) ∧ w2.cell? ⟨w.heap.size + 1, 1, none⟩ = some (.int .i64 b1) ∧ w2.cell? ⟨w.heap.size + 1, 2, none⟩ = some (.int .i64 b2) ∧ Below w.heap.size w w2 := by
    subst hw2
    obtain ⟨t0, t1, t2, t3, t4, t5⟩ := two_start w a0 a1 a2 b0 b1 b2 28 28
    exact ⟨t0, t1, t2, t3, t4, t5, ((Below.refl _ _).alloc (Nat.le_refl _) _).alloc (by simp) _⟩
  clear hw2
  have HF : Hid _ := F
  clear F
  go_region_held3 (fun w' => w'.cell? ⟨w.heap.size, 0, none⟩ = some (.int .i64 a0) ∧ w'.cell? ⟨w.heap.size, 1, none⟩ = some (.int .i64 a1) ∧ w'.cell? ⟨w.heap.size, 2, none⟩ = some (.int .i64 a2) ∧
      w'.cell? ⟨w.heap.size + 1, 0, none⟩ = some (.int .i64 b0) ∧ w'.cell? ⟨w.heap.size + 1, 1, none⟩ = some (.int .i64 b1) ∧ w'.cell? ⟨w.heap.size + 1, 2, none⟩ = some (.int .i64 b2) ∧ Below w.heap.size w w')
    (first | with_reducible assumption | with_reducible exact keep6s HF.out | with_reducible exact keep6a HF.out)
    (first | (go_at_call 46; refine (compareInt_any _ _ _).mono ?_; rintro e w' ⟨rfl, rfl⟩) | (go_at_call 30; refine (or3_any _ _ _ _ _ (by exact newc rfl) (by exact newc rfl) (by exact newc rfl)).mono ?_; rintro e w' ⟨rfl, rfl⟩))
  go_wp2
  go_ret
  exact ⟨rfl, (HF.out.2.2.2.2.2.2.alloc HF.out.2.2.2.2.2.2.size _).drew⟩

theorem cmp3_lt (a0 a1 a2 b0 b1 b2 : Int) : decide (cmp3 a0 a1 a2 b0 b1 b2 < 0) = ltB a0 a1 a2 b0 b1 b2 := by
  have c : ∀ x y : Int, (cmpI x y == 0) = (x == y) := by
    intro x y
    unfold cmpI
    by_cases h1 : x < y
    · simp [h1]; omega
    · by_cases h2 : y < x
      · simp [h1, h2]; omega
      · simp [h1, h2]; omega
  have d : ∀ x y : Int, decide (cmpI x y < 0) = decide (x < y) := by
    intro x y
    unfold cmpI
    by_cases h1 : x < y
    · simp [h1]
    · by_cases h2 : y < x
      · simp [h1, h2]
      · simp [h1, h2]
  cases h0 : a0 == b0 with
  | false =>
    have e : cmp3 a0 a1 a2 b0 b1 b2 = cmpI a0 b0 := by simp only [cmp3, orL, c, h0]
    rw [e, d]; simp only [ltB, h0]
  | true =>
    cases h1 : a1 == b1 with
    | false =>
      have e : cmp3 a0 a1 a2 b0 b1 b2 = cmpI a1 b1 := by simp only [cmp3, orL, c, h0, h1]
      rw [e, d]; simp only [ltB, h0, h1]
    | true =>
      cases h2 : a2 == b2 with
      | false =>
        have e : cmp3 a0 a1 a2 b0 b1 b2 = cmpI a2 b2 := by simp only [cmp3, orL, c, h0, h1, h2]
        rw [e, d]; simp only [ltB, h0, h1]
      | true =>
        have e : cmp3 a0 a1 a2 b0 b1 b2 = 0 := by simp only [cmp3, orL, c, h0, h1, h2]
        have e2 : a2 = b2 := by simpa using h2
        rw [e]; simp only [ltB, h0, h1]
        subst e2
        simp

end Go.Proofs.Ybulkkru.cst

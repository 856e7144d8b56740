import Derived.Test.YbulkkruCost
namespace Go.Proofs.Ybulkkru.cst
open Go.RowKit Go.Proofs.Ybulkkru.net
set_option linter.unusedVariables false

/-- A slice of int32 that holds zs. -/
def RowI (w : World) (ao : Option Addr) (zs : List Int) : Prop :=
  zs.length ≠ 0 → ∃ b o, ao = some ⟨b, o, none⟩ ∧ ∀ i, i < zs.length → w.cell? ⟨b, o + i, none⟩ = some (.int .i32 (zs.getD i 0))
theorem RowI.keep {w w' : World} {ao : Option Addr} {zs : List Int} (h : RowI w ao zs) (hb : Below w.heap.size w w') : RowI w' ao zs := by
  intro hz
  obtain ⟨b, o, e, hc⟩ := h hz
  exact ⟨b, o, e, fun i hi => cell_keeps hb (hc i hi)⟩

/-- The first place of x from k on, or -1. -/
def idxFrom (x : Int) : List Int → Int → Int
  | [], _ => -1
  | y :: l, k => match x == y with | true => k | false => idxFrom x l (k + 1)

def hasL (zs : List Int) (x : Int) : Bool := zs.contains x

theorem idxFrom_ge (x : Int) : ∀ (l : List Int) (k : Int), 0 ≤ k → (decide (0 ≤ idxFrom x l k)) = hasL l x
  | [], k, hk => by simp [idxFrom, hasL]
  | y :: l, k, hk => by
    have ih := idxFrom_ge x l (k + 1) (by omega)
    unfold idxFrom hasL
    cases h : x == y with
    | true => simp only [List.contains_cons, h, Bool.true_or]; simpa using hk
    | false => simp only [List.contains_cons, h, Bool.false_or]; exact ih

theorem idx_skip {x : Int} {l : List Int} {k : Nat} (h : k < l.length) (h0 : (x == l.getD k 0) = false) : idxFrom x (l.drop k) k = idxFrom x (l.drop (k + 1)) ((k + 1 : Nat) : Int) := by
  rw [dropI h]; simp only [idxFrom, h0]; simp
theorem idx_hit {x : Int} {l : List Int} {k : Nat} (h : k < l.length) (h0 : (x == l.getD k 0) = true) : idxFrom x (l.drop k) k = k := by
  rw [dropI h]; simp only [idxFrom, h0]

set_option maxHeartbeats 1000000 in
theorem index32_any (ao : Option Addr) (cap : Nat) (zs : List Int) (x : Int) (w : World) (hl : zs.length ≤ 2000) (hz : RowI w ao zs) :
    Calls Yba.prog 65 #[.slice ao zs.length cap, .int .i32 x] w fun e w' => e = .returned (.int .i64 (idxFrom x zs 0)) ∧ w' = w := by
  go_enter Yba.func65, Yba.ntmps65
  go_wp2
  go_loop [5, 8] (fun _ i => ∃ k : Nat, k ≤ zs.length ∧ i = .int .i64 k ∧ idxFrom x (zs.drop k) k = idxFrom x zs 0) (fun _ i => zs.length - (intOf i).toNat)
  case atStart => exact ⟨0, Nat.zero_le _, rfl, rfl⟩
  case round =>
    obtain ⟨k, hk, rfl, hor⟩ := hrel
    have HO : Hid (idxFrom x (zs.drop k) k = idxFrom x zs 0) := hor
    clear hor
    by_cases hlt : k < zs.length
    · obtain ⟨b, o, rfl, hc⟩ := hz (by omega)
      have c0 := hc k hlt
      have k0 : (0 : Int) ≤ (k : Int) := by omega
      have k1 : (k : Int) < (zs.length : Int) := by omega
      cases h0 : (x == zs.getD k 0) with
      | false =>
        have HS : Hid _ := idx_skip hlt h0
        generalize zs.getD k 0 = y at c0 h0
        clear hc hz
        go_wp2
        go_round
        case rel => exact ⟨k + 1, by omega, by go_num, HS.out.symm.trans HO.out⟩
        case measure => simp [intOf]; omega
      | true =>
        have HS : Hid _ := idx_hit hlt h0
        generalize zs.getD k 0 = y at c0 h0
        clear hc hz
        go_wp2
        go_ret
        exact ⟨ret_int (HS.out.symm.trans HO.out), rfl⟩
    · have e : zs.drop k = [] := List.drop_eq_nil_of_le (by omega)
      have HE : Hid (idxFrom x zs 0 = -1) := show _ = _ by rw [← HO.out, e]; rfl
      clear e hz
      go_wp2
      go_ret
      exact ⟨ret_int HE.out.symm, rfl⟩

theorem contains32_any (ao : Option Addr) (cap : Nat) (zs : List Int) (x : Int) (w : World) (hl : zs.length ≤ 2000) (hz : RowI w ao zs) :
    Calls Yba.prog 42 #[.slice ao zs.length cap, .int .i32 x] w fun e w' => e = .returned (.bool (hasL zs x)) ∧ w' = w := by
  have HG : Hid (decide (0 ≤ idxFrom x zs 0) = hasL zs x) := show _ = _ from idxFrom_ge x zs 0 (Int.le_refl _)
  go_enter Yba.func42, Yba.ntmps42
  go_wp2_with (go_at_call 65; refine (index32_any ao cap zs x _ hl hz).mono ?_; rintro e w' ⟨rfl, rfl⟩)
  go_ret
  exact ⟨by rw [← HG.out]; rfl, rfl⟩

/-- 'part.named'. -/
def namedB (pin b : Int) (orig cur : List Int) : Bool := match b == pin with | true => true | false => match hasL orig b with | true => true | false => hasL cur b

set_option maxHeartbeats 2000000 in
set_option maxRecDepth 100000 in
theorem named_any (p o : Nat) (ao co : Option Addr) (oc cc : Nat) (pin b : Int) (orig cur : List Int) (w : World) (hol : orig.length ≤ 2000) (hcl : cur.length ≤ 2000)
    (h3 : w.cell? ⟨p, o + 2, none⟩ = some (.slice ao orig.length oc)) (h4 : w.cell? ⟨p, o + 3, none⟩ = some (.slice co cur.length cc)) (h7 : w.cell? ⟨p, o + 7, none⟩ = some (.int .i32 pin)) (ho : RowI w ao orig) (hc : RowI w co cur) :
    Calls Yba.prog 24 #[.pointer (some ⟨p, o, none⟩), .int .i32 b] w fun e w' => e = .returned (.bool (namedB pin b orig cur)) ∧ w' = w := by
  have HN : Hid (namedB pin b orig cur = match b == pin with | true => true | false => match hasL orig b with | true => true | false => hasL cur b) := show _ = _ from rfl
  have HO : Hid (RowI w ao orig) := ho
  have HC : Hid (RowI w co cur) := hc
  clear ho hc
  cases e1 : b == pin with
  | true =>
    go_enter Yba.func24, Yba.ntmps24
    go_wp2_with fail
    go_ret
    exact ⟨by rw [HN.out, e1]; rfl, rfl⟩
  | false =>
    cases e2 : hasL orig b with
    | true =>
      go_enter Yba.func24, Yba.ntmps24
      go_wp2_with (go_at_call 42; refine (contains32_any _ _ orig b _ hol HO.out).mono ?_; rintro e w' ⟨rfl, rfl⟩; rw [e2])
      go_ret
      exact ⟨by rw [HN.out, e1, e2]; rfl, rfl⟩
    | false =>
      go_enter Yba.func24, Yba.ntmps24
      go_wp2_with (go_at_call 42; (first | (refine (contains32_any ao oc orig b _ hol HO.out).mono ?_; rintro e w' ⟨rfl, rfl⟩; rw [e2]) | (refine (contains32_any co cc cur b _ hcl HC.out).mono ?_; rintro e w' ⟨rfl, rfl⟩)))
      go_ret
      exact ⟨by rw [HN.out, e1, e2]; rfl, rfl⟩

end Go.Proofs.Ybulkkru.cst

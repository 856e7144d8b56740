import Derived.Test.YbulkkruCost
import Derived.Sort.Grow
namespace Go.Proofs.Ybulkkru.cst
open Go.RowKit Go.Proofs.Ybulkkru.net
set_option linter.unusedVariables false

/-- The world has drawn, and has new blocks behind; nothing else has turned. -/
def Laid (w w' : World) : Prop := ∃ q os, w' = Sort.grow (w.drewN q) os
theorem Laid.refl (w : World) : Laid w w := ⟨0, #[], by simp; rfl⟩
theorem Laid.alloc {w w' : World} (h : Laid w w') (o : Obj) : Laid w (w'.alloc o) := by
  obtain ⟨q, os, rfl⟩ := h
  exact ⟨q, os ++ #[o], by rw [Sort.alloc_eq_grow, Sort.grow_grow]⟩
theorem drew_drewN (w : World) (q : Nat) : (w.drewN q).drew = w.drewN (q + 1) := by
  simp [World.drewN, World.drew, Nat.add_assoc]
theorem Laid.drew {w w' : World} (h : Laid w w') : Laid w w'.drew := by
  obtain ⟨q, os, rfl⟩ := h
  exact ⟨q + 1, os, by rw [Sort.drew_grow, drew_drewN]⟩
theorem Laid.trans {w w1 w2 : World} (h : Laid w w1) (k : Laid w1 w2) : Laid w w2 := by
  obtain ⟨q, os, rfl⟩ := h
  obtain ⟨p, os', rfl⟩ := k
  refine ⟨q + p, os ++ os', ?_⟩
  simp [Sort.grow, World.drewN, Nat.add_assoc, Array.append_assoc]
theorem Laid.below {w w' : World} (h : Laid w w') : Below w.heap.size w w' := by
  obtain ⟨q, os, rfl⟩ := h
  refine ⟨rfl, rfl, rfl, by simp [Sort.grow, World.drewN], fun k hk => ?_⟩
  simp only [Sort.grow, World.drewN]
  rw [Array.getElem?_append_left hk]

theorem nan47 (x : Int) (w : World) : Calls Yba.prog 47 #[.int .i32 x] w fun e w' => e = .returned (.bool false) ∧ w' = w := by
  go_enter Yba.func47, Yba.ntmps47
  go_wp2
  go_ret
  exact ⟨rfl, rfl⟩

set_option maxHeartbeats 1000000 in
theorem compare33_any (x y : Int) (w : World) : Calls Yba.prog 33 #[.int .i32 x, .int .i32 y] w fun e w' => e = .returned (.int .i64 (cmpI x y)) ∧ w' = w := by
  by_cases h1 : x < y
  · have HC : Hid (cmpI x y = -1) := show _ = _ by simp [cmpI, h1]
    go_enter Yba.func33, Yba.ntmps33
    go_wp2_with (go_at_call 47; refine (nan47 _ _).mono ?_; rintro e w' ⟨rfl, rfl⟩)
    go_ret
    exact ⟨by rw [HC.out]; rfl, rfl⟩
  · by_cases h2 : y < x
    · have HC : Hid (cmpI x y = 1) := show _ = _ by simp [cmpI, h1, h2]
      go_enter Yba.func33, Yba.ntmps33
      go_wp2_with (go_at_call 47; refine (nan47 _ _).mono ?_; rintro e w' ⟨rfl, rfl⟩)
      go_ret
      exact ⟨by rw [HC.out]; rfl, rfl⟩
    · have HC : Hid (cmpI x y = 0) := show _ = _ by simp [cmpI, h1, h2]
      go_enter Yba.func33, Yba.ntmps33
      go_wp2_with (go_at_call 47; refine (nan47 _ _).mono ?_; rintro e w' ⟨rfl, rfl⟩)
      go_ret
      exact ⟨by rw [HC.out]; rfl, rfl⟩

theorem nan48 (x : Int) (w : World) : Calls Yba.prog 48 #[.int .u8 x] w fun e w' => e = .returned (.bool false) ∧ w' = w := by
  go_enter Yba.func48, Yba.ntmps48
  go_wp2
  go_ret
  exact ⟨rfl, rfl⟩

set_option maxHeartbeats 1000000 in
theorem compare34_any (x y : Int) (w : World) : Calls Yba.prog 34 #[.int .u8 x, .int .u8 y] w fun e w' => e = .returned (.int .i64 (cmpI x y)) ∧ w' = w := by
  by_cases h1 : x < y
  · have HC : Hid (cmpI x y = -1) := show _ = _ by simp [cmpI, h1]
    go_enter Yba.func34, Yba.ntmps34
    go_wp2_with (go_at_call 48; refine (nan48 _ _).mono ?_; rintro e w' ⟨rfl, rfl⟩)
    go_ret
    exact ⟨by rw [HC.out]; rfl, rfl⟩
  · by_cases h2 : y < x
    · have HC : Hid (cmpI x y = 1) := show _ = _ by simp [cmpI, h1, h2]
      go_enter Yba.func34, Yba.ntmps34
      go_wp2_with (go_at_call 48; refine (nan48 _ _).mono ?_; rintro e w' ⟨rfl, rfl⟩)
      go_ret
      exact ⟨by rw [HC.out]; rfl, rfl⟩
    · have HC : Hid (cmpI x y = 0) := show _ = _ by simp [cmpI, h1, h2]
      go_enter Yba.func34, Yba.ntmps34
      go_wp2_with (go_at_call 48; refine (nan48 _ _).mono ?_; rintro e w' ⟨rfl, rfl⟩)
      go_ret
      exact ⟨by rw [HC.out]; rfl, rfl⟩

theorem nan49 (x : Int) (w : World) : Calls Yba.prog 49 #[.int .i8 x] w fun e w' => e = .returned (.bool false) ∧ w' = w := by
  go_enter Yba.func49, Yba.ntmps49
  go_wp2
  go_ret
  exact ⟨rfl, rfl⟩

set_option maxHeartbeats 1000000 in
theorem compare35_any (x y : Int) (w : World) : Calls Yba.prog 35 #[.int .i8 x, .int .i8 y] w fun e w' => e = .returned (.int .i64 (cmpI x y)) ∧ w' = w := by
  by_cases h1 : x < y
  · have HC : Hid (cmpI x y = -1) := show _ = _ by simp [cmpI, h1]
    go_enter Yba.func35, Yba.ntmps35
    go_wp2_with (go_at_call 49; refine (nan49 _ _).mono ?_; rintro e w' ⟨rfl, rfl⟩)
    go_ret
    exact ⟨by rw [HC.out]; rfl, rfl⟩
  · by_cases h2 : y < x
    · have HC : Hid (cmpI x y = 1) := show _ = _ by simp [cmpI, h1, h2]
      go_enter Yba.func35, Yba.ntmps35
      go_wp2_with (go_at_call 49; refine (nan49 _ _).mono ?_; rintro e w' ⟨rfl, rfl⟩)
      go_ret
      exact ⟨by rw [HC.out]; rfl, rfl⟩
    · have HC : Hid (cmpI x y = 0) := show _ = _ by simp [cmpI, h1, h2]
      go_enter Yba.func35, Yba.ntmps35
      go_wp2_with (go_at_call 49; refine (nan49 _ _).mono ?_; rintro e w' ⟨rfl, rfl⟩)
      go_ret
      exact ⟨by rw [HC.out]; rfl, rfl⟩

/-- A bool as a number. -/
def b2i (b : Bool) : Int := match b with | true => 1 | false => 0

theorem compareBools_any (a b : Bool) (w : World) : Calls Yba.prog 32 #[.bool a, .bool b] w fun e w' => e = .returned (.int .i64 (cmpI (b2i a) (b2i b))) ∧ w' = w := by
  cases a <;> cases b <;>
  · go_enter Yba.func32, Yba.ntmps32
    go_wp2
    go_ret
    exact ⟨rfl, rfl⟩

end Go.Proofs.Ybulkkru.cst

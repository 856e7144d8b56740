import Derived.Test.YbulkkruDown
namespace Go.Proofs.Ybulkkru.cst
open Go.RowKit Go.Proofs Go.Proofs.Ybulkkru.net
open Go.Sort (grow HoldsK swp)
set_option linter.unusedVariables false

set_option maxHeartbeats 2000000 in
set_option maxRecDepth 100000 in
theorem init_any (blk off cap : Nat) (d : Array Q) (w : World) (hH : HoldsK encQ 13 w blk off d) (hblk : blk < w.heap.size) (hsz : d.size ≤ 4096) :
    Calls Yba.prog 27 #[.slice (some ⟨blk, off, none⟩) d.size cap] w fun e w' => e = .returned (.tuple #[]) ∧ SWK encQ 13 w blk off (initF (d.size / 2) d) w' := by
  have HH : Hid _ := hH
  have S0 : Aside (SWK encQ 13 w blk off d w) := SWK.start hH
  clear hH
  go_enter Yba.func27, Yba.ntmps27
  go_wp2
  go_loopg [2] (d.size / 2) (fun kx s2 wr => ∃ (n : Nat) (dk : Array Q), s2 = .int .i64 ((n : Int) - 1) ∧ n ≤ d.size / 2 ∧ n ≤ kx ∧ dk.size = d.size ∧ Aside (SWK encQ 13 w blk off dk wr) ∧ Hid (initF n dk = initF (d.size / 2) d))
  case atStart => exact ⟨d.size / 2, d, by go_num, Nat.le_refl _, Nat.le_refl _, rfl, S0, rfl⟩
  case round =>
    obtain ⟨n, dk, rfl, hn, hkx, hds, S1, HE⟩ := hrel
    clear S0
    cases n with
    | zero =>
      have h0 : ¬ (0 : Int) ≤ ((0 : Nat) : Int) - 1 := by omega
      have HEQ : Hid (initF 0 dk = dk) := show _ = _ from rfl
      go_wp2
      (try simp only [Exit.inBlock, Exit.then]); refine bodyPost_end (results_none rfl _ _ _) rfl ?_
      exact ⟨rfl, by rw [← HE.out]; exact S1.out⟩
    | succ n =>
      have h0 : (0 : Int) ≤ ((n + 1 : Nat) : Int) - 1 := by omega
      have e0 : ((n + 1 : Nat) : Int) - 1 = n := by omega
      rw [e0] at h0 ⊢
      have hc : ∀ cap, Calls Yba.prog 44 #[.slice (some ⟨blk, off, none⟩) dk.size cap, .int .i64 n] wr fun e w' => e = .returned (.tuple #[]) ∧ SWK encQ 13 w blk off (downF dk.size dk n) w' := fun cap => down_any blk off cap n d dk w wr HH.out hblk hds S1.out (by omega) (by omega)
      have HEQ : Hid (initF (n + 1) dk = initF n (downF dk.size dk n)) := show _ = _ from rfl
      have HZ : Hid ((downF dk.size dk n).size = d.size) := show _ = _ from (downF_size _ _ _).trans hds
      generalize downF dk.size dk n = dn at hc HEQ HZ
      rw [hds] at hc
      go_wp2_with (go_at_call 44; refine (hc _).mono ?_; rintro e w' ⟨rfl, S2⟩)
      have S3 : Aside _ := S2
      clear S2
      go_wp2
      go_roundg n
      case measure => omega
      case rel => exact ⟨n, dn, by go_num, by omega, Nat.le_refl _, HZ.out, S3, (show Hid _ from by rw [← HE.out, HEQ.out]; exact rfl)⟩

theorem init_none (p : Option Addr) (cap : Nat) (w : World) : Calls Yba.prog 27 #[.slice p 0 cap] w fun e w' => e = .returned (.tuple #[]) ∧ w' = w := by
  go_enter Yba.func27, Yba.ntmps27
  go_wp2
  go_loopg [2] 0 (fun kx s2 wr => s2 = .int .i64 (-1) ∧ wr = w)
  case atStart => exact ⟨by go_num, rfl⟩
  case round =>
    obtain ⟨rfl, rfl⟩ := hrel
    go_wp2
    (try simp only [Exit.inBlock, Exit.then]); refine bodyPost_end (results_none rfl _ _ _) rfl ?_
    exact ⟨rfl, rfl⟩
end Go.Proofs.Ybulkkru.cst

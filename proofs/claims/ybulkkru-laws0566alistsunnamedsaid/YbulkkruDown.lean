import Derived.Test.YbulkkruQ
import Derived.Test.YbulkkruHeap
import Derived.Shelf.SlSortCmp.KitK
import Derived.Deep.LoopGhost
import Derived.Deep.DeepCutAuto
namespace Go.Proofs.Ybulkkru.cst
open Go.RowKit Go.Proofs Go.Proofs.Ybulkkru.net
open Go.Sort (grow HoldsK swp)
set_option linter.unusedVariables false

theorem encQ_len (x : Q) : (encQ x).length = 13 := rfl
theorem encQ_one (x : Q) : ∀ v ∈ encQ x, v.oneCell' = true := by
  intro v hv
  simp only [encQ, List.mem_cons, List.not_mem_nil, or_false] at hv
  rcases hv with rfl | rfl | rfl | rfl | rfl | rfl | rfl | rfl | rfl | rfl | rfl | rfl | rfl <;> rfl

theorem swp_eq (d : Array Q) (i j : Nat) (hi : i < d.size) (hj : j < d.size) : swp d i j = d.swapIfInBounds i j := by
  refine Array.ext (by simp [swp]) fun t h1 h2 => ?_
  have e := swap_get d i j t hi hj
  have ht : t < d.size := by simpa using h2
  rw [getElem!_pos _ t h2] at e
  rw [e]
  simp only [swp]
  by_cases a : j = t
  · subst a
    by_cases b : j = i
    · subst b; simp
    · simp [b, ht]
  · by_cases b : i = t
    · subst b; simp [a, ht]
    · simp [a, b, Ne.symm a, Ne.symm b, ht]

theorem qat_of {w : World} {blk off : Nat} {d : Array Q} (h : HoldsK encQ 13 w blk off d) {i : Nat} (hi : i < d.size) : QAt w blk (off + i * 13) d[i]! := by
  intro c hc
  rw [(h.cell hi hc).1]
  have : c < (encQ d[i]!).length := hc
  rw [List.getElem?_eq_getElem this, getElem!_pos (encQ d[i]!) c this]

/-- 'compare' of two entries of the row, in a world of the sort's. -/
theorem swk_cmp {w0 W : World} {blk off : Nat} {d0 d : Array Q} (h : SWK encQ 13 w0 blk off d W) (hblk : blk < w0.heap.size) (h0 : HoldsK encQ 13 w0 blk off d0) (hs : d.size = d0.size) (i j : Nat) (hi : i < d.size) (hj : j < d.size) (n : Nat) (os : Array Obj) :
    Calls Yba.prog 10 #[.pointer (some ⟨blk, off + i * 13, none⟩), .pointer (some ⟨blk, off + j * 13, none⟩)] (grow (W.drewN n) os) fun e w' => e = .returned (.int .i64 (cmpQ d[i]! d[j]!)) ∧ ∃ q os', w' = grow ((grow (W.drewN n) os).drewN q) os' :=
  compareQ_any _ _ _ _ _ _ _ (qat_of ((h.grown n os).holds hblk h0 hs) hi) (qat_of ((h.grown n os).holds hblk h0 hs) hj)

theorem kid_right {d : Array Q} {i : Nat} (h : 2 * i + 2 < d.size) (hc : cmpQ d[2 * i + 2]! d[2 * i + 1]! < 0) : kid d i = 2 * i + 2 := by unfold kid; rw [if_pos ⟨h, hc⟩]
theorem kid_left {d : Array Q} {i : Nat} (h : ¬ (2 * i + 2 < d.size ∧ cmpQ d[2 * i + 2]! d[2 * i + 1]! < 0)) : kid d i = 2 * i + 1 := by unfold kid; rw [if_neg h]
theorem down_end {f : Nat} {d : Array Q} {i : Nat} (h : d.size ≤ 2 * i + 1) : downF f d i = d := by cases f <;> simp [downF, h]
theorem down_stop {f : Nat} {d : Array Q} {i : Nat} (h : ¬ d.size ≤ 2 * i + 1) (hc : 0 ≤ cmpQ d[kid d i]! d[i]!) : downF f d i = d := by cases f <;> simp [downF, h, hc]
theorem down_go {f : Nat} {d : Array Q} {i : Nat} (h : ¬ d.size ≤ 2 * i + 1) (hc : ¬ 0 ≤ cmpQ d[kid d i]! d[i]!) : downF (f + 1) d i = downF f (d.swapIfInBounds i (kid d i)) (kid d i) := by simp [downF, h, hc]
/-- More fuel than the row has places below i changes nothing. -/
theorem downF_fuel : ∀ (f g : Nat) (d : Array Q) (i : Nat), d.size ≤ i + f → d.size ≤ i + g → downF f d i = downF g d i
  | 0, g, d, i, hf, hg => by rw [down_end (by omega), down_end (by omega)]
  | f + 1, 0, d, i, hf, hg => by rw [down_end (f := f + 1) (by omega), down_end (by omega)]
  | f + 1, g + 1, d, i, hf, hg => by
    by_cases h : d.size ≤ 2 * i + 1
    · rw [down_end h, down_end h]
    · by_cases hc : 0 ≤ cmpQ d[kid d i]! d[i]!
      · rw [down_stop h hc, down_stop h hc]
      · rw [down_go h hc, down_go h hc]
        have := kid_lt h
        exact downF_fuel f g _ _ (by simp; omega) (by simp; omega)

theorem swk_cmpk {k : Nat} (hk : k = 13) {w0 W : World} {blk off : Nat} {d0 d : Array Q} (h : SWK encQ k w0 blk off d W) (hblk : blk < w0.heap.size) (h0 : HoldsK encQ k w0 blk off d0) (hs : d.size = d0.size) (i j : Nat) (hi : i < d.size) (hj : j < d.size) (n : Nat) (os : Array Obj) :
    Calls Yba.prog 10 #[.pointer (some ⟨blk, off + i * k, none⟩), .pointer (some ⟨blk, off + j * k, none⟩)] (grow (W.drewN n) os) fun e w' => e = .returned (.int .i64 (cmpQ d[i]! d[j]!)) ∧ ∃ q os', w' = grow ((grow (W.drewN n) os).drewN q) os' := by
  subst hk
  exact swk_cmp h hblk h0 hs i j hi hj n os

set_option maxHeartbeats 8000000 in
set_option maxRecDepth 1000000 in
theorem down_k (k : Nat) (hk : k = 13) (zE : ∀ w, (Go.sizeOf 77).run Yba.prog w = .ok k w) (blk off cap i0 : Nat) (d0 d : Array Q) (w0 w : World) (hH : HoldsK encQ k w0 blk off d0) (hblk : blk < w0.heap.size) (hs : d.size = d0.size) (S : SWK encQ k w0 blk off d w) (hi0 : i0 < d.size) (hsz : d.size ≤ 4096) :
    Calls Yba.prog 44 #[.slice (some ⟨blk, off, none⟩) d.size cap, .int .i64 i0] w fun e w' => e = .returned (.tuple #[]) ∧ SWK encQ k w0 blk off (downF d.size d i0) w' := by
  have mixed : Yba.prog.follows .mixedOrders = true := by kernel_rfl
  have R : RowK encQ k w0 blk off d0 := ⟨fun x => (encQ_len x).trans hk.symm, encQ_one, hH, hblk⟩
  have HR : Hid _ := R
  have HH : Hid _ := hH
  have HK13 : Hid (k = 13) := hk
  have S0 : Aside _ := S
  have HS : Hid (d.size = d0.size) := hs
  clear S R hH hs hk
  go_enter Yba.func44, Yba.ntmps44
  go_wp2
  go_loopg [1] (d.size - i0) (fun kx s1 wr => ∃ (i : Nat) (dk : Array Q), s1 = .int .i64 i ∧ i < d.size ∧ d.size - i ≤ kx ∧ dk.size = d.size ∧ Aside (SWK encQ k w0 blk off dk wr) ∧ Hid (downF d.size dk i = downF d.size d i0))
  case atStart => exact ⟨i0, d, rfl, hi0, Nat.le_refl _, rfl, S0, rfl⟩
  case round =>
    obtain ⟨i, dk, rfl, hi, hkx, hds, S1, HE⟩ := hrel
    clear S0
    have rch : IntKind.i64.wrap (2 * (i : Int) + 1 + 1) = 2 * (i : Int) + 1 + 1 := by rw [IntKind.wrap_i64]; omega
    by_cases h0 : d.size ≤ 2 * i + 1
    · have h0z : (d.size : Int) ≤ 2 * (i : Int) + 1 := by omega
      have HEQ : Hid (downF d.size dk i = dk) := show _ = _ from down_end (by omega)
      go_wp2
      (try simp only [Exit.inBlock, Exit.then]); refine bodyPost_ret (results_none rfl _ _ _) rfl ?_
      exact ⟨rfl, by rw [← HE.out, HEQ.out]; exact S1.out⟩
    · have h0z : ¬ ((d.size : Int) ≤ 2 * (i : Int) + 1) := by omega
      by_cases h1 : 2 * i + 2 < d.size
      · have h1z : 2 * (i : Int) + 1 + 1 < (d.size : Int) := by omega
        cases hL : decide (cmpQ dk[2 * i + 2]! dk[2 * i + 1]! < 0) with
        | true =>
          have hl : cmpQ dk[2 * i + 2]! dk[2 * i + 1]! < 0 := of_decide_eq_true hL
          have HK : Hid (kid dk i = 2 * i + 2) := show _ = _ from kid_right (by omega) hl
          have ea3 : ((2 * (i : Int) + 1 + 1) : Int).toNat = 2 * i + 2 := by omega
          have pa3 : (0 : Int) ≤ (2 * (i : Int) + 1 + 1) := by omega
          have ba3 : (2 * (i : Int) + 1 + 1) < (d.size : Int) := by omega
          have ec3 : ((2 * (i : Int) + 1) : Int).toNat = 2 * i + 1 := by omega
          have pc3 : (0 : Int) ≤ (2 * (i : Int) + 1) := by omega
          have bc3 : (2 * (i : Int) + 1) < (d.size : Int) := by omega
          have hc := swk_cmpk HK13.out S1.out hblk HH.out (hds.trans HS.out) (2 * i + 2) (2 * i + 1) (by omega) (by omega)
          generalize cmpQ dk[2 * i + 2]! dk[2 * i + 1]! = cl at hc hl hL
          go_wp2_with fail
          go_quiet_grown (first | (go_at_call 10; refine Calls.grown_of (hc _ _)))
          have S2 : Aside (SWK encQ k w0 blk off dk (grow (wr.drewN nq) osq)) := S1.out.grown nq osq
          clear hc S1
          generalize grow (wr.drewN nq) osq = wr2 at S2 ⊢
          clear nq osq
          go_wp2_with fail
          cases hG : decide (0 ≤ cmpQ dk[2 * i + 2]! dk[i]!) with
          | true =>
            have hg : 0 ≤ cmpQ dk[2 * i + 2]! dk[i]! := of_decide_eq_true hG
            have ea : ((2 * (i : Int) + 1 + 1) : Int).toNat = 2 * i + 2 := by omega
            have pa : (0 : Int) ≤ (2 * (i : Int) + 1 + 1) := by omega
            have ba : (2 * (i : Int) + 1 + 1) < (d.size : Int) := by omega
            have ec : ((i : Int) : Int).toNat = i := by omega
            have pc : (0 : Int) ≤ (i : Int) := by omega
            have bc : (i : Int) < (d.size : Int) := by omega
            have hc := swk_cmpk HK13.out S2.out hblk HH.out (hds.trans HS.out) (2 * i + 2) i (by omega) (by omega)
            have HEQ : Hid (downF d.size dk i = dk) := show _ = _ from down_stop (by omega) (by rw [HK.out]; exact hg)
            generalize cmpQ dk[2 * i + 2]! dk[i]! = cv at hc hg hG
            go_wp2_with fail
            go_quiet_grown (first | (go_at_call 10; refine Calls.grown_of (hc _ _)))
            have S3 : Aside (SWK encQ k w0 blk off dk (grow (wr2.drewN nq) osq)) := S2.out.grown nq osq
            clear hc S2
            go_wp2
            (try simp only [Exit.inBlock, Exit.then]); refine bodyPost_ret (results_none rfl _ _ _) rfl ?_
            exact ⟨rfl, by rw [← HE.out, HEQ.out]; exact S3.out⟩
          | false =>
            have hg : ¬ 0 ≤ cmpQ dk[2 * i + 2]! dk[i]! := of_decide_eq_false hG
            have ea : ((2 * (i : Int) + 1 + 1) : Int).toNat = 2 * i + 2 := by omega
            have pa : (0 : Int) ≤ (2 * (i : Int) + 1 + 1) := by omega
            have ba : (2 * (i : Int) + 1 + 1) < (d.size : Int) := by omega
            have ec : ((i : Int) : Int).toNat = i := by omega
            have pc : (0 : Int) ≤ (i : Int) := by omega
            have bc : (i : Int) < (d.size : Int) := by omega
            have hc := swk_cmpk HK13.out S2.out hblk HH.out (hds.trans HS.out) (2 * i + 2) i (by omega) (by omega)
            have HEQ : Hid (downF d.size dk i = downF d.size (swp dk i (2 * i + 2)) (2 * i + 2)) := show _ = _ from by
              rw [downF_fuel d.size (d.size + 1) dk i (by omega) (by omega), down_go (by omega) (by rw [HK.out]; exact hg), HK.out, swp_eq _ _ _ (by omega) (by omega)]
            generalize cmpQ dk[2 * i + 2]! dk[i]! = cv at hc hg hG
            go_wp2_with fail
            go_quiet_grown (first | (go_at_call 10; refine Calls.grown_of (hc _ _)))
            have S3 : Aside (SWK encQ k w0 blk off dk (grow (wr2.drewN nq) osq)) := S2.out.grown nq osq
            clear hc S2
            generalize grow (wr2.drewN nq) osq = w3 at S3 ⊢
            clear nq osq
            have S4 : Aside (SWK encQ k w0 blk off (swp dk i (2 * i + 2)) ((w3.drew.setCells blk (off + i * k) (encQ dk[2 * i + 2]!)).setCells blk (off + (2 * i + 2) * k) (encQ dk[i]!))) := S3.out.swapped HR.out i (2 * i + 2) (by omega) (by omega)
            have l6a := S3.out.ld1 HR.out (hds.trans HS.out) Yba.prog i (by omega)
            have l6b := S3.out.ld1 HR.out (hds.trans HS.out) Yba.prog (2 * i + 2) (by omega)
            have s6a := S3.out.st1 HR.out (hds.trans HS.out) Yba.prog i (by omega) dk[2 * i + 2]!
            have s6b := S3.out.st2 HR.out (hds.trans HS.out) Yba.prog i (2 * i + 2) (by omega) (by omega) dk[2 * i + 2]! dk[i]!
            have n6a : (encQ dk[i]!).length = k := (encQ_len _).trans HK13.out.symm
            have n6b : (encQ dk[2 * i + 2]!).length = k := (encQ_len _).trans HK13.out.symm
            generalize encQ dk[i]! = cI at S4 l6a s6b n6a
            generalize encQ dk[2 * i + 2]! = cJ at S4 l6b s6a s6b n6b
            clear S3
            go_wp2_with fail
            go_big_region_o
            clear l6a l6b s6a s6b
            generalize (w3.drew.setCells blk (off + i * k) cJ).setCells blk (off + (2 * i + 2) * k) cI = w4 at S4 ⊢
            go_wp2
            go_roundg (d.size - (2 * i + 2))
            case measure => omega
            case rel => exact ⟨2 * i + 2, swp dk i (2 * i + 2), by go_num, by omega, Nat.le_refl _, by rw [Go.Sort.size_swp]; exact hds, S4, (show Hid _ from by rw [← HE.out, HEQ.out]; exact rfl)⟩
        | false =>
          have hl : ¬ cmpQ dk[2 * i + 2]! dk[2 * i + 1]! < 0 := of_decide_eq_false hL
          have HK : Hid (kid dk i = 2 * i + 1) := show _ = _ from kid_left (fun h => hl h.2)
          have ea3 : ((2 * (i : Int) + 1 + 1) : Int).toNat = 2 * i + 2 := by omega
          have pa3 : (0 : Int) ≤ (2 * (i : Int) + 1 + 1) := by omega
          have ba3 : (2 * (i : Int) + 1 + 1) < (d.size : Int) := by omega
          have ec3 : ((2 * (i : Int) + 1) : Int).toNat = 2 * i + 1 := by omega
          have pc3 : (0 : Int) ≤ (2 * (i : Int) + 1) := by omega
          have bc3 : (2 * (i : Int) + 1) < (d.size : Int) := by omega
          have hc := swk_cmpk HK13.out S1.out hblk HH.out (hds.trans HS.out) (2 * i + 2) (2 * i + 1) (by omega) (by omega)
          generalize cmpQ dk[2 * i + 2]! dk[2 * i + 1]! = cl at hc hl hL
          go_wp2_with fail
          go_quiet_grown (first | (go_at_call 10; refine Calls.grown_of (hc _ _)))
          have S2 : Aside (SWK encQ k w0 blk off dk (grow (wr.drewN nq) osq)) := S1.out.grown nq osq
          clear hc S1
          generalize grow (wr.drewN nq) osq = wr2 at S2 ⊢
          clear nq osq
          go_wp2_with fail
          cases hG : decide (0 ≤ cmpQ dk[2 * i + 1]! dk[i]!) with
          | true =>
            have hg : 0 ≤ cmpQ dk[2 * i + 1]! dk[i]! := of_decide_eq_true hG
            have ea : ((2 * (i : Int) + 1) : Int).toNat = 2 * i + 1 := by omega
            have pa : (0 : Int) ≤ (2 * (i : Int) + 1) := by omega
            have ba : (2 * (i : Int) + 1) < (d.size : Int) := by omega
            have ec : ((i : Int) : Int).toNat = i := by omega
            have pc : (0 : Int) ≤ (i : Int) := by omega
            have bc : (i : Int) < (d.size : Int) := by omega
            have hc := swk_cmpk HK13.out S2.out hblk HH.out (hds.trans HS.out) (2 * i + 1) i (by omega) (by omega)
            have HEQ : Hid (downF d.size dk i = dk) := show _ = _ from down_stop (by omega) (by rw [HK.out]; exact hg)
            generalize cmpQ dk[2 * i + 1]! dk[i]! = cv at hc hg hG
            go_wp2_with fail
            go_quiet_grown (first | (go_at_call 10; refine Calls.grown_of (hc _ _)))
            have S3 : Aside (SWK encQ k w0 blk off dk (grow (wr2.drewN nq) osq)) := S2.out.grown nq osq
            clear hc S2
            go_wp2
            (try simp only [Exit.inBlock, Exit.then]); refine bodyPost_ret (results_none rfl _ _ _) rfl ?_
            exact ⟨rfl, by rw [← HE.out, HEQ.out]; exact S3.out⟩
          | false =>
            have hg : ¬ 0 ≤ cmpQ dk[2 * i + 1]! dk[i]! := of_decide_eq_false hG
            have ea : ((2 * (i : Int) + 1) : Int).toNat = 2 * i + 1 := by omega
            have pa : (0 : Int) ≤ (2 * (i : Int) + 1) := by omega
            have ba : (2 * (i : Int) + 1) < (d.size : Int) := by omega
            have ec : ((i : Int) : Int).toNat = i := by omega
            have pc : (0 : Int) ≤ (i : Int) := by omega
            have bc : (i : Int) < (d.size : Int) := by omega
            have hc := swk_cmpk HK13.out S2.out hblk HH.out (hds.trans HS.out) (2 * i + 1) i (by omega) (by omega)
            have HEQ : Hid (downF d.size dk i = downF d.size (swp dk i (2 * i + 1)) (2 * i + 1)) := show _ = _ from by
              rw [downF_fuel d.size (d.size + 1) dk i (by omega) (by omega), down_go (by omega) (by rw [HK.out]; exact hg), HK.out, swp_eq _ _ _ (by omega) (by omega)]
            generalize cmpQ dk[2 * i + 1]! dk[i]! = cv at hc hg hG
            go_wp2_with fail
            go_quiet_grown (first | (go_at_call 10; refine Calls.grown_of (hc _ _)))
            have S3 : Aside (SWK encQ k w0 blk off dk (grow (wr2.drewN nq) osq)) := S2.out.grown nq osq
            clear hc S2
            generalize grow (wr2.drewN nq) osq = w3 at S3 ⊢
            clear nq osq
            have S4 : Aside (SWK encQ k w0 blk off (swp dk i (2 * i + 1)) ((w3.drew.setCells blk (off + i * k) (encQ dk[2 * i + 1]!)).setCells blk (off + (2 * i + 1) * k) (encQ dk[i]!))) := S3.out.swapped HR.out i (2 * i + 1) (by omega) (by omega)
            have l6a := S3.out.ld1 HR.out (hds.trans HS.out) Yba.prog i (by omega)
            have l6b := S3.out.ld1 HR.out (hds.trans HS.out) Yba.prog (2 * i + 1) (by omega)
            have s6a := S3.out.st1 HR.out (hds.trans HS.out) Yba.prog i (by omega) dk[2 * i + 1]!
            have s6b := S3.out.st2 HR.out (hds.trans HS.out) Yba.prog i (2 * i + 1) (by omega) (by omega) dk[2 * i + 1]! dk[i]!
            have n6a : (encQ dk[i]!).length = k := (encQ_len _).trans HK13.out.symm
            have n6b : (encQ dk[2 * i + 1]!).length = k := (encQ_len _).trans HK13.out.symm
            generalize encQ dk[i]! = cI at S4 l6a s6b n6a
            generalize encQ dk[2 * i + 1]! = cJ at S4 l6b s6a s6b n6b
            clear S3
            go_wp2_with fail
            go_big_region_o
            clear l6a l6b s6a s6b
            generalize (w3.drew.setCells blk (off + i * k) cJ).setCells blk (off + (2 * i + 1) * k) cI = w4 at S4 ⊢
            go_wp2
            go_roundg (d.size - (2 * i + 1))
            case measure => omega
            case rel => exact ⟨2 * i + 1, swp dk i (2 * i + 1), by go_num, by omega, Nat.le_refl _, by rw [Go.Sort.size_swp]; exact hds, S4, (show Hid _ from by rw [← HE.out, HEQ.out]; exact rfl)⟩
      · have h1z : ¬ (2 * (i : Int) + 1 + 1 < (d.size : Int)) := by omega
        have HK : Hid (kid dk i = 2 * i + 1) := show _ = _ from kid_left (fun h => h1 (by omega))
        have h1d : decide (2 * (i : Int) + 1 + 1 < (d.size : Int)) = false := decide_eq_false h1z
        go_wp2_with fail
        go_big_region_o
        have S2 : Aside (SWK encQ k w0 blk off dk wr.drew) := S1.out.drew
        clear S1
        generalize wr.drew = wr2 at S2 ⊢
        go_wp2_with fail
        cases hG : decide (0 ≤ cmpQ dk[2 * i + 1]! dk[i]!) with
        | true =>
          have hg : 0 ≤ cmpQ dk[2 * i + 1]! dk[i]! := of_decide_eq_true hG
          have ea : ((2 * (i : Int) + 1) : Int).toNat = 2 * i + 1 := by omega
          have pa : (0 : Int) ≤ (2 * (i : Int) + 1) := by omega
          have ba : (2 * (i : Int) + 1) < (d.size : Int) := by omega
          have ec : ((i : Int) : Int).toNat = i := by omega
          have pc : (0 : Int) ≤ (i : Int) := by omega
          have bc : (i : Int) < (d.size : Int) := by omega
          have hc := swk_cmpk HK13.out S2.out hblk HH.out (hds.trans HS.out) (2 * i + 1) i (by omega) (by omega)
          have HEQ : Hid (downF d.size dk i = dk) := show _ = _ from down_stop (by omega) (by rw [HK.out]; exact hg)
          generalize cmpQ dk[2 * i + 1]! dk[i]! = cv at hc hg hG
          go_wp2_with fail
          go_quiet_grown (first | (go_at_call 10; refine Calls.grown_of (hc _ _)))
          have S3 : Aside (SWK encQ k w0 blk off dk (grow (wr2.drewN nq) osq)) := S2.out.grown nq osq
          clear hc S2
          go_wp2
          (try simp only [Exit.inBlock, Exit.then]); refine bodyPost_ret (results_none rfl _ _ _) rfl ?_
          exact ⟨rfl, by rw [← HE.out, HEQ.out]; exact S3.out⟩
        | false =>
          have hg : ¬ 0 ≤ cmpQ dk[2 * i + 1]! dk[i]! := of_decide_eq_false hG
          have ea : ((2 * (i : Int) + 1) : Int).toNat = 2 * i + 1 := by omega
          have pa : (0 : Int) ≤ (2 * (i : Int) + 1) := by omega
          have ba : (2 * (i : Int) + 1) < (d.size : Int) := by omega
          have ec : ((i : Int) : Int).toNat = i := by omega
          have pc : (0 : Int) ≤ (i : Int) := by omega
          have bc : (i : Int) < (d.size : Int) := by omega
          have hc := swk_cmpk HK13.out S2.out hblk HH.out (hds.trans HS.out) (2 * i + 1) i (by omega) (by omega)
          have HEQ : Hid (downF d.size dk i = downF d.size (swp dk i (2 * i + 1)) (2 * i + 1)) := show _ = _ from by
            rw [downF_fuel d.size (d.size + 1) dk i (by omega) (by omega), down_go (by omega) (by rw [HK.out]; exact hg), HK.out, swp_eq _ _ _ (by omega) (by omega)]
          generalize cmpQ dk[2 * i + 1]! dk[i]! = cv at hc hg hG
          go_wp2_with fail
          go_quiet_grown (first | (go_at_call 10; refine Calls.grown_of (hc _ _)))
          have S3 : Aside (SWK encQ k w0 blk off dk (grow (wr2.drewN nq) osq)) := S2.out.grown nq osq
          clear hc S2
          generalize grow (wr2.drewN nq) osq = w3 at S3 ⊢
          clear nq osq
          have S4 : Aside (SWK encQ k w0 blk off (swp dk i (2 * i + 1)) ((w3.drew.setCells blk (off + i * k) (encQ dk[2 * i + 1]!)).setCells blk (off + (2 * i + 1) * k) (encQ dk[i]!))) := S3.out.swapped HR.out i (2 * i + 1) (by omega) (by omega)
          have l6a := S3.out.ld1 HR.out (hds.trans HS.out) Yba.prog i (by omega)
          have l6b := S3.out.ld1 HR.out (hds.trans HS.out) Yba.prog (2 * i + 1) (by omega)
          have s6a := S3.out.st1 HR.out (hds.trans HS.out) Yba.prog i (by omega) dk[2 * i + 1]!
          have s6b := S3.out.st2 HR.out (hds.trans HS.out) Yba.prog i (2 * i + 1) (by omega) (by omega) dk[2 * i + 1]! dk[i]!
          have n6a : (encQ dk[i]!).length = k := (encQ_len _).trans HK13.out.symm
          have n6b : (encQ dk[2 * i + 1]!).length = k := (encQ_len _).trans HK13.out.symm
          generalize encQ dk[i]! = cI at S4 l6a s6b n6a
          generalize encQ dk[2 * i + 1]! = cJ at S4 l6b s6a s6b n6b
          clear S3
          go_wp2_with fail
          go_big_region_o
          clear l6a l6b s6a s6b
          generalize (w3.drew.setCells blk (off + i * k) cJ).setCells blk (off + (2 * i + 1) * k) cI = w4 at S4 ⊢
          go_wp2
          go_roundg (d.size - (2 * i + 1))
          case measure => omega
          case rel => exact ⟨2 * i + 1, swp dk i (2 * i + 1), by go_num, by omega, Nat.le_refl _, by rw [Go.Sort.size_swp]; exact hds, S4, (show Hid _ from by rw [← HE.out, HEQ.out]; exact rfl)⟩

theorem down_any (blk off cap i0 : Nat) (d0 d : Array Q) (w0 w : World) (hH : HoldsK encQ 13 w0 blk off d0) (hblk : blk < w0.heap.size) (hs : d.size = d0.size) (S : SWK encQ 13 w0 blk off d w) (hi0 : i0 < d.size) (hsz : d.size ≤ 4096) :
    Calls Yba.prog 44 #[.slice (some ⟨blk, off, none⟩) d.size cap, .int .i64 i0] w fun e w' => e = .returned (.tuple #[]) ∧ SWK encQ 13 w0 blk off (downF d.size d i0) w' :=
  down_k 13 rfl Yba.sizeOf77 blk off cap i0 d0 d w0 w hH hblk hs S hi0 hsz

end Go.Proofs.Ybulkkru.cst

import Derived.Test.YbulkkpqHeapParts
namespace Go.Proofs.Ybulkkpq.rest
open Go.RowKit
set_option linter.unusedVariables false

theorem info35 : (Yba.prog.info? 35).map (fun i => (i.zero, i.size, i.bytes)) = some (some (.pointer none), 1, 8) := by kernel_rfl

set_option maxHeartbeats 2000000 in
set_option maxRecDepth 100000 in
theorem build_any (ao io : Option Addr) (n cap m icap : Nat) (Z : List Int) (S : List ByteArray) (w : World) (hn : n ≤ 1024) (hm : m ≤ maxLen) (hZ : NumRow w ao n Z) (hS : StrRow w io m S) :
    Calls Yba.prog 9 #[.slice ao n cap, .slice io m icap] w fun e w' => ∃ pb : List Nat,
      e = .returned (.slice (some ⟨w.heap.size, 0, none⟩) n n) ∧ pb.length = n ∧ w'.ownsRow w.heap.size 35 1 (.slice (some ⟨w.heap.size, 0, none⟩) n n) n (ptrs pb) ∧ Nodes w' w.heap.size Z pb ∧ Below w.heap.size w w' := by
  unfold maxLen at hm
  obtain ⟨i0, hi, hz0, hz1, hz2⟩ := info_parts info35
  go_enter Yba.func9, Yba.ntmps9
  go_wp2_with (at_make; refine wpList_make_own _ rfl _ _ 33 rfl w.heap.size 35 i0 (.pointer none) 1 Yba.underlying33 hi hz0 hz1 _ _ _ n rfl rfl (by omega) ?b2 ?b3 (Nat.le_refl _) ?_)
  case b2 => rw [hz2]; omega
  case b3 => unfold maxLen; omega
  intro w0 hown0 hgrow0
  go_wp2
  go_loopw [5, 14] (fun v i wr => ∃ pb : List Nat, pb.length ≤ n ∧ i = .int .i64 pb.length ∧ v = .slice (some ⟨w.heap.size, 0, none⟩) pb.length n ∧
      wr.ownsRow w.heap.size 35 1 v pb.length (ptrs pb) ∧ Nodes wr w.heap.size Z pb ∧ Below w.heap.size w wr)
    (fun _ i _ => n - (intOf i).toNat)
  case atStart => exact ⟨[], Nat.zero_le _, rfl, rfl, hown0, Nodes.nil _ _ _, (Below.refl _ _).grown hgrow0 (Nat.le_refl _) (fun k h => by cases h)⟩
  case round =>
    obtain ⟨pb, hk, rfl, rfl, hown, hN, hnx⟩ := hrel
    by_cases hlt : pb.length < n
    · obtain ⟨b, off, rfl, hb, hc⟩ := hZ (by omega)
      have hcell := (hnx.cell (p := ⟨b, off + pb.length, none⟩) hb).trans (hc _ hlt)
      by_cases hid : pb.length < m
      · obtain ⟨b2, off2, rfl, hb2, hc2⟩ := hS (by omega)
        have hcell2 := (hnx.cell (p := ⟨b2, off2 + pb.length, none⟩) hb2).trans (hc2 _ hid)
        go_wp2_with (at_builtin; refine wpList_append_fits _ rfl (.tmp 27) (.tmp 34) 33 rfl w.heap.size 35 i0 1 Yba.underlying33 hi hz1 w.heap.size pb.length n _ rfl ((hown.alloc _).alloc _) ⟨wr.heap.size + 1, 0, none⟩ 1 1 [.pointer (some ⟨wr.heap.size, 0, none⟩)] rfl rfl (by intro t u ht; match t, ht with | 0, ht => simp at ht; subst ht; simp [Addr.add]) (by intro u hu; simp at hu; subst hu; rfl) (by omega) ?_; intro w1 hown1 hgrow1)
        have R := rel_step (s := S.getD pb.length ByteArray.empty) hnx (Nat.le_refl _) (Nat.le_refl _) rfl hown hN hown1 hgrow1
        go_roundw
        case rel => exact ⟨pb ++ [wr.heap.size], by simp; omega, by simp, by simp, R.1, R.2.1, R.2.2⟩
        case measure => simp [intOf]; omega
      · go_wp2_with (at_builtin; refine wpList_append_fits _ rfl (.tmp 27) (.tmp 34) 33 rfl w.heap.size 35 i0 1 Yba.underlying33 hi hz1 w.heap.size pb.length n _ rfl ((hown.alloc _).alloc _) ⟨wr.heap.size + 1, 0, none⟩ 1 1 [.pointer (some ⟨wr.heap.size, 0, none⟩)] rfl rfl (by intro t u ht; match t, ht with | 0, ht => simp at ht; subst ht; simp [Addr.add]) (by intro u hu; simp at hu; subst hu; rfl) (by omega) ?_; intro w1 hown1 hgrow1)
        have R := rel_step (s := ByteArray.empty) hnx (Nat.le_refl _) (Nat.le_refl _) rfl hown hN hown1 hgrow1
        go_roundw
        case rel => exact ⟨pb ++ [wr.heap.size], by simp; omega, by simp, by simp, R.1, R.2.1, R.2.2⟩
        case measure => simp [intOf]; omega
    · go_wp2
      go_ret
      have e : pb.length = n := by omega
      rw [e] at hown
      exact ⟨pb, by rw [e]; rfl, e, hown, hN, hnx⟩

end Go.Proofs.Ybulkkpq.rest

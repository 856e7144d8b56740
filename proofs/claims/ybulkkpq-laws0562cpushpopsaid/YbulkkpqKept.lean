import Derived.Test.YbulkkpqPush
import Derived.Deep.QuietTactic
import Derived.BigQuiet
import Derived.LaidEqlPtr
import Derived.WalkSmall
namespace Go.Proofs.Ybulkkpq.rest
open Go.RowKit
set_option linter.unusedVariables false

theorem info41 : ((Yba.prog.info? 41).map fun i => i.size) = some 6 := by kernel_rfl

theorem neq35 (w : World) (a : Addr) : (binOp .neq 35 (.pointer (some a)) (.pointer (some a))).run Yba.prog w = .ok (.bool false) w := by
  obtain ⟨j, hj, _⟩ := Option.map_eq_some_iff.1 info41
  have h : ∀ d : Nat, (Op.equalIn (d + 1) 35 (.pointer (some a)) (.pointer (some a))).run Yba.prog w = .ok true w := fun d => by
    simp [Op.equalIn, run_underlying Yba.underlying35, sizeOf, typeInfo, hj, run_sameAddr_same]
  simp only [binOp]
  simp [Op.equal, Op.maxDepth, h 9999]
attribute [local go_sem] neq35

set_option maxHeartbeats 2000000 in
set_option maxRecDepth 100000 in
theorem kept_any (B g o N cap n ocap scap : Nat) (ao : Option Addr) (pb : List Nat) (Z : List Int) (w : World) (hn : n ≤ 1024) (hN : n ≤ N) (hN2 : N ≤ 2000) (hpb : n ≤ pb.length)
    (hg : ∀ i, i < n → w.cell? ⟨g, i, none⟩ = (ptrs pb)[i]?) (ho : ∀ i, i < n → w.cell? ⟨o, i, none⟩ = (ptrs pb)[i]?) (hglt : g < w.heap.size) (holt : o < w.heap.size)
    (hNd : Nodes w B Z pb) (hZ : NumRow w ao n Z) :
    Calls Yba.prog 11 #[.slice (some ⟨g, 0, none⟩) N cap, .slice (some ⟨o, 0, none⟩) n ocap, .slice ao n scap] w fun e w' => e = .returned (.bool true) ∧ Below w.heap.size w w' := by
  go_enter Yba.func11, Yba.ntmps11
  go_wp2
  go_loopw [10] (fun i wr => ∃ k : Nat, k ≤ n ∧ i = .int .i64 k ∧ Below w.heap.size w wr) (fun i _ => n - (intOf i).toNat)
  case atStart => exact ⟨0, Nat.zero_le _, rfl, Below.refl _ _⟩
  case round =>
    obtain ⟨k, hk, rfl, hnx⟩ := hrel
    by_cases hlt : k < n
    · obtain ⟨b, off, rfl, hb, hc⟩ := hZ (by omega)
      have hz0 := (hnx.cell (p := ⟨b, off + k, none⟩) hb).trans (hc k hlt)
      have h1 := (hnx.cell (p := ⟨g, k, none⟩) hglt).trans ((hg k hlt).trans (ptrs_get pb k (by omega)))
      have h2 := (hnx.cell (p := ⟨o, k, none⟩) holt).trans ((ho k hlt).trans (ptrs_get pb k (by omega)))
      have hplt := hNd.lt k (by omega)
      obtain ⟨_, s, h3⟩ := hNd k (by omega)
      generalize pb.getD k 0 = p at h1 h2 h3 hplt
      generalize Z.getD k 0 = z at h3 hz0
      have h3' := (hnx.block p hplt).trans h3
      have c2 : wr.cell? ⟨p, 2, none⟩ = some (.bool true) := cell_of_block h3'
      have c3 : wr.cell? ⟨p, 3, none⟩ = some (.int .i64 k) := cell_of_block h3'
      have c5 : wr.cell? ⟨p, 5, none⟩ = some (.int .u64 z) := cell_of_block h3'
      clear h3 h3' hc hg ho hNd hZ
      have a0 : (0 : Int) ≤ (k : Int) := by omega
      have a1 : (k : Int) < (n : Int) := by omega
      have a2 : (k : Int) < (N : Int) := by omega
      go_wp2
      go_quiet (fail)
      go_wp2
      go_roundw
      case rel => exact ⟨k + 1, by omega, by go_num, below_drewN hnx _⟩
      case measure => simp [intOf]; omega
    · go_wp2
      go_ret
      exact ⟨rfl, hnx⟩

end Go.Proofs.Ybulkkpq.rest

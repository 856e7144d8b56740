import Derived.Test.YbulkkruNet
import Derived.Deep.RegionWith
import Derived.Deep.RegionHeld3
import Derived.Deep.QuietTactic
import Derived.BigQuiet
namespace Go.Proofs.Ybulkkru.net
open Go.RowKit
set_option linter.unusedVariables false

theorem field135i (a b : Value) (n : Int) (w : World) : (Instr.field 135 (.agg #[a, b, .int .i64 n]) 2).run Yba.prog w = .ok (.int .i64 n) w := by kernel_rfl
attribute [local go_sem] field135i

theorem keepS {w w1 w' : World} {a : Addr} {v : Value} (h : w1.cell? a = some v ∧ Below w.heap.size w w1) (hb : Below w1.heap.size w1 w') : w'.cell? a = some v ∧ Below w.heap.size w w' :=
  ⟨cell_keeps hb h.1, h.2.trans (hb.mono h.2.size)⟩
theorem partS {w w1 : World} {b o : Nat} {p : PartD} (hp : PartAt w b o p) (h : w1.cell? ⟨b, o + 16, none⟩ = some (.int .i64 p.2.1) ∧ Below w.heap.size w w1) : PartAt w1 b o p := hp.keeps h.2
theorem belowS {w w1 : World} {b o : Nat} {p : PartD} (h : w1.cell? ⟨b, o + 16, none⟩ = some (.int .i64 p.2.1) ∧ Below w.heap.size w w1) : Below w.heap.size w w1 := h.2
theorem belowD {w w1 : World} (h : Below w.drew.heap.size w.drew w1) : Below w.heap.size w w1 := (Below.refl _ _).drew.trans h
theorem startS {w : World} {a : Addr} {v : Value} (h : w.cell? a = some v) : w.drew.cell? a = some v ∧ Below w.heap.size w w.drew := ⟨h, (Below.refl _ _).drew⟩

set_option maxHeartbeats 2000000 in
set_option maxRecDepth 100000 in
theorem mendsFrom_any (b o : Nat) (p : PartD) (r : Int) (w : World) (hp : PartAt w b o p) (hl : p.2.2.length ≤ 1000) :
    Calls Yba.prog 38 #[.pointer (some ⟨b, o, none⟩), .int .i32 r] w fun e w' => e = .returned (.bool (mendsB p r)) ∧ Below w.heap.size w w' := by
  have h2 := hp.2.1
  by_cases hf : 0 < flowOf p.2.2 r
  · have hd : decide (0 < flowOf p.2.2 r) = true := by simpa using hf
    go_enter Yba.func38, Yba.ntmps38
    go_wp2
    go_region_held3 (fun w' => w'.cell? ⟨b, o + 16, none⟩ = some (.int .i64 p.2.1) ∧ Below w.heap.size w w')
      (first | exact startS h2 | exact keepS (by assumption) hb)
      (first | (go_at_call 60; refine (flowInto_any b o p r _ (partS hp (by assumption)) hl).mono ?_; rintro e w' ⟨rfl, hb⟩) | (go_at_call 61; refine (sharedOut_any b o p _ (partS hp (by assumption)) hl).mono ?_; rintro e w' ⟨rfl, hb⟩))
    all_goals
      go_wp2
      go_ret
      exact ⟨by rw [mendsB, hd]; rfl, belowS (b := b) (o := o) (p := p) (by assumption)⟩
  · have hd : decide (0 < flowOf p.2.2 r) = false := by simpa using hf
    go_enter Yba.func38, Yba.ntmps38
    go_wp2
    first | go_region_with (go_at_call 60; refine (flowInto_any b o p r _ (hp.keeps (by exact (Below.refl _ _).drew)) hl).mono ?_; rintro e w' ⟨rfl, hb⟩) | fail
    all_goals
      go_wp2
      go_ret
      exact ⟨by rw [mendsB, hd]; rfl, belowD (by assumption)⟩

end Go.Proofs.Ybulkkru.net

import Derived.Test.YbulkkruPart3
import Derived.Test.YbulkkruNeq
import Derived.Test.YbulkkruHeap
import Derived.Deep.QuietTactic
import Derived.BigQuiet
namespace Go.Proofs.Ybulkkru.cst
open Go.RowKit Go.Proofs Go.Proofs.Ybulkkru.net
open Go.Sort (grow)
set_option linter.unusedVariables false

noncomputable def Bk7 : Code := (Yba.f3.body.bind (findBlock 78)).getD .skip
noncomputable def Bk8 : Code := (Yba.f3.body.bind (findBlock 84)).getD .skip
noncomputable def Bk9 : Code := (Yba.f3.body.bind (findBlock 92)).getD .skip

structure Same7 (a a' : Act) : Prop where
  sz : a'.tmps.size = 474
  df : a'.defers = []
  s40 : a'.tmps.getD 40 undef = a.tmps.getD 40 undef
  s46 : a'.tmps.getD 46 undef = a.tmps.getD 46 undef
  s48 : a'.tmps.getD 48 undef = a.tmps.getD 48 undef

structure Same8 (a a' : Act) : Prop where
  sz : a'.tmps.size = 474
  df : a'.defers = []
  s46 : a'.tmps.getD 46 undef = a.tmps.getD 46 undef
  s48 : a'.tmps.getD 48 undef = a.tmps.getD 48 undef
  s61 : a'.tmps.getD 61 undef = a.tmps.getD 61 undef


theorem neqPre (i : Int) (w : World) : (binOp .neq 77 (.agg #[.int .u8 0, .int .i32 0, .int .i32 0, .int .i32 i, .int .i64 0, .int .i64 0, .int .i64 0, .int .i32 0, .int .i32 0, .int .i32 0, .int .i32 0, .bool false, .int .i8 0]) (.agg #[.int .u8 0, .int .i32 0, .int .i32 0, .int .i32 i, .int .i64 0, .int .i64 0, .int .i64 0, .int .i32 0, .int .i32 0, .int .i32 0, .int .i32 0, .bool false, .int .i8 0])).run Yba.prog w = .ok (.bool false) w :=
  neq77 ⟨0, 0, 0, i, 0, 0, 0, 0, 0, 0, 0, false, 0⟩ w

set_option maxHeartbeats 8000000 in
set_option maxRecDepth 100000 in
theorem part7 (P S lg len lcap : Nat) (w : World) (a : Act) (K : Act → World → Prop) (Q' : Exit → Act → World → Prop) (hsz : a.tmps.size = 474) (hd : a.defers = []) (h40 : a.tmps.getD 40 undef = .int .i64 P) (h46 : a.tmps.getD 46 undef = .pointer (some ⟨S, 0, none⟩)) (h60 : a.tmps.getD 60 undef = .int .i64 0)
    (hP : P ≤ 3) (hPl : P ≤ len) (s4 : w.cell? ⟨S, 4, none⟩ = some (.slice (some ⟨lg, 0, none⟩) len lcap)) (hpre : ∀ i, i < P → QAt w lg (i * 13) (preQ i))
    (hK : ∀ a', Same7 a a' → K a' w) : Code.wp Yba.prog Bk7 (Exit.then K Q') a w := by
  obtain ⟨t, df⟩ := a
  simp only at hsz hd h40 h46 h60
  subst hd
  obtain ⟨f, hf, rfl⟩ := lit474 t hsz
  rw [hf] at h40 h46 h60
  have HK : Hid _ := hK
  have HQ : Hid (∀ i, i < P → QAt w lg (i * 13) (preQ i)) := hpre
  have HF : Hid _ := hf
  clear hK hpre hf hsz
  rw [h40, h46, h60]
  conv => arg 2; whnf
  go_wp2_with fail
  go_loopw [60] (fun v wr => wr = w ∧ ∃ i : Nat, i ≤ P ∧ v = .int .i64 i) (fun v _ => P - (intOf v).toNat)
  case atStart => exact ⟨rfl, 0, Nat.zero_le _, rfl⟩
  case round =>
    obtain ⟨rfl, i, hi, rfl⟩ := hrel
    by_cases hlt : i < P
    · have hq := HQ.out i hlt
      have i0 : (0 : Int) ≤ (i : Int) := by omega
      have i1 : (i : Int) < (len : Int) := by omega
      have i2 : (i : Int) < (P : Int) := by omega
      have HI : Hid (i + 1 ≤ P) := hlt
      have w32 : IntKind.i32.wrap (100 + (i : Int)) = 100 + (i : Int) := by rw [IntKind.wrap_i32]; omega
      have hneq := fun W => neqPre (100 + (i : Int)) W
      have u0 : wr.cell? ⟨lg, i * 13, none⟩ = some (.int .u8 0) := hq 0 (by omega)
      have u1 : wr.cell? ⟨lg, i * 13 + 1, none⟩ = some (.int .i32 0) := hq 1 (by omega)
      have u2 : wr.cell? ⟨lg, i * 13 + 2, none⟩ = some (.int .i32 0) := hq 2 (by omega)
      have u3 : wr.cell? ⟨lg, i * 13 + 3, none⟩ = some (.int .i32 (100 + (i : Int))) := hq 3 (by omega)
      have u4 : wr.cell? ⟨lg, i * 13 + 4, none⟩ = some (.int .i64 0) := hq 4 (by omega)
      have u5 : wr.cell? ⟨lg, i * 13 + 5, none⟩ = some (.int .i64 0) := hq 5 (by omega)
      have u6 : wr.cell? ⟨lg, i * 13 + 6, none⟩ = some (.int .i64 0) := hq 6 (by omega)
      have u7 : wr.cell? ⟨lg, i * 13 + 7, none⟩ = some (.int .i32 0) := hq 7 (by omega)
      have u8 : wr.cell? ⟨lg, i * 13 + 8, none⟩ = some (.int .i32 0) := hq 8 (by omega)
      have u9 : wr.cell? ⟨lg, i * 13 + 9, none⟩ = some (.int .i32 0) := hq 9 (by omega)
      have u10 : wr.cell? ⟨lg, i * 13 + 10, none⟩ = some (.int .i32 0) := hq 10 (by omega)
      have u11 : wr.cell? ⟨lg, i * 13 + 11, none⟩ = some (.bool false) := hq 11 (by omega)
      have u12 : wr.cell? ⟨lg, i * 13 + 12, none⟩ = some (.int .i8 0) := hq 12 (by omega)
      clear hq
      go_wp2_with fail
      go_roundw
      case rel => exact ⟨trivial, i + 1, HI.out, by go_num⟩
      case measure => have := HI.out; simp [intOf]; omega
    · have hie : i = P := by omega
      subst hie
      have i2 : ¬ (i : Int) < (i : Int) := by omega
      go_wp2_with fail
      exact HK.out _ ⟨rfl, rfl, ((HF.out 40).trans h40).symm, ((HF.out 46).trans h46).symm, (HF.out 48).symm⟩

set_option maxHeartbeats 8000000 in
set_option maxRecDepth 100000 in
theorem part8 (m lg off gcap : Nat) (gp : Option Addr) (D : Array Q) (w : World) (a : Act) (K : Act → World → Prop) (Q' : Exit → Act → World → Prop) (hsz : a.tmps.size = 474) (hd : a.defers = []) (h61 : a.tmps.getD 61 undef = .slice gp m gcap) (h62 : a.tmps.getD 62 undef = .int .i64 1)
    (hm : m ≤ 1024) (hD : D.size = m) (hgp : 0 < m → gp = some ⟨lg, off, none⟩) (hq : ∀ i, i < m → QAt w lg (off + i * 13) D[i]!) (hh : HeapFrom D 0)
    (hK : ∀ a' w', Same8 a a' → Below w.heap.size w w' → K a' w') : Code.wp Yba.prog Bk8 (Exit.then K Q') a w := by
  obtain ⟨t, df⟩ := a
  simp only at hsz hd h61 h62
  subst hd
  obtain ⟨f, hf, rfl⟩ := lit474 t hsz
  rw [hf] at h61 h62
  have HK : Hid _ := hK
  have HQ : Hid (∀ i, i < m → QAt w lg (off + i * 13) D[i]!) := hq
  have HH : Hid (HeapFrom D 0) := hh
  have HF : Hid _ := hf
  have mixed : Yba.prog.follows .mixedOrders = true := by kernel_rfl
  clear hK hq hf hsz hh
  rw [h61, h62]
  conv => arg 2; whnf
  go_wp2_with fail
  go_loopw [62] (fun v wr => ∃ i : Nat, 1 ≤ i ∧ (i ≤ m ∨ i = 1) ∧ v = .int .i64 i ∧ Hid (Below w.heap.size w wr)) (fun v _ => m - (intOf v).toNat)
  case atStart => exact ⟨1, Nat.le_refl _, Or.inr rfl, rfl, Below.refl _ _⟩
  case round =>
    obtain ⟨i, h1, hi, rfl, HB⟩ := hrel
    by_cases hlt : i < m
    · have hg := hgp (by omega)
      subst hg
      obtain ⟨p, hp⟩ : ∃ p : Nat, (i - 1) / 2 = p := ⟨_, rfl⟩
      have hpm : p < m := by omega
      have hpc : i = 2 * p + 1 ∨ i = 2 * p + 2 := by omega
      have i0 : (0 : Int) ≤ (i : Int) := by omega
      have i2 : (i : Int) < (m : Int) := by omega
      have HI : Hid (i + 1 ≤ m) := hlt
      have e1 : IntKind.i64.wrap ((i : Int) - 1) = (i : Int) - 1 := by rw [IntKind.wrap_i64]; omega
      have e2 : ((i : Int) - 1).tdiv 2 = (p : Int) := by rw [Int.tdiv_eq_ediv_of_nonneg (by omega)]; omega
      have e3 : IntKind.i64.wrap (p : Int) = (p : Int) := by rw [IntKind.wrap_i64]; omega
      have p0 : (0 : Int) ≤ (p : Int) := by omega
      have p1 : (p : Int) < (m : Int) := by omega
      have hle : cmpQ D[p]! D[i]! ≤ 0 := HH.out p i (Nat.zero_le _) hpc (by omega)
      have hc : ∀ n os, Calls Yba.prog 10 #[.pointer (some ⟨lg, off + p * 13, none⟩), .pointer (some ⟨lg, off + i * 13, none⟩)] (grow (wr.drewN n) os) fun e w' => e = .returned (.int .i64 (cmpQ D[p]! D[i]!)) ∧ ∃ q os', w' = grow ((grow (wr.drewN n) os).drewN q) os' := fun n os => by
        have hl : Laid wr (grow (wr.drewN n) os) := ⟨n, os, rfl⟩
        have hb := HB.out.trans (hl.below.mono HB.out.size)
        exact compareQ_any _ _ _ _ _ _ _ ((HQ.out p hpm).keep hb) ((HQ.out i hlt).keep hb)
      have hng : ¬ 0 < cmpQ D[p]! D[i]! := by omega
      generalize cmpQ D[p]! D[i]! = cv at hc hng hle
      go_wp2_with fail
      go_quiet_grown (first | (go_at_call 10; refine Calls.grown_of (hc _ _)))
      have HB2 : Hid (Below w.heap.size w (grow (wr.drewN nq) osq)) := by
        have hl : Laid wr (grow (wr.drewN nq) osq) := ⟨nq, osq, rfl⟩
        exact HB.out.trans (hl.below.mono HB.out.size)
      clear hc
      generalize grow (wr.drewN nq) osq = w5 at HB2 ⊢
      go_wp2_with fail
      go_roundw
      case rel => exact ⟨i + 1, by omega, Or.inl HI.out, by go_num, HB2⟩
      case measure => have := HI.out; simp [intOf]; omega
    · have i2 : ¬ (i : Int) < (m : Int) := by omega
      go_wp2_with fail
      exact HK.out _ _ ⟨rfl, rfl, (HF.out 46).symm, (HF.out 48).symm, ((HF.out 61).trans h61).symm⟩ HB.out

set_option maxHeartbeats 8000000 in
set_option maxRecDepth 100000 in
theorem part9 (m g wb gcap wcap : Nat) (gp wp : Option Addr) (X : Array Q) (w : World) (a : Act) (K : Act → World → Prop) (Q' : Exit → Act → World → Prop) (hsz : a.tmps.size = 474) (hd : a.defers = []) (h63 : a.tmps.getD 63 undef = .slice gp m gcap) (h48 : a.tmps.getD 48 undef = .slice wp m wcap) (h433 : a.tmps.getD 433 undef = .int .i64 m) (h434 : a.tmps.getD 434 undef = .int .i64 0)
    (hm : m ≤ 1024) (hgp : 0 < m → gp = some ⟨g, 0, none⟩ ∧ wp = some ⟨wb, 0, none⟩) (hq : ∀ i, i < m → QAt w g (i * 13) X[i]! ∧ QAt w wb (i * 13) X[i]!)
    (hK : ∀ a' w', Same8 a a' → Below w.heap.size w w' → K a' w') : Code.wp Yba.prog Bk9 (Exit.then K Q') a w := by
  obtain ⟨t, df⟩ := a
  simp only at hsz hd h63 h48 h433 h434
  subst hd
  obtain ⟨f, hf, rfl⟩ := lit474 t hsz
  rw [hf] at h63 h48 h433 h434
  have HK : Hid _ := hK
  have HQ : Hid (∀ i, i < m → QAt w g (i * 13) X[i]! ∧ QAt w wb (i * 13) X[i]!) := hq
  have HF : Hid _ := hf
  clear hK hq hf hsz
  rw [h63, h48, h433, h434]
  conv => arg 2; whnf
  go_wp2_with fail
  go_loopw [434] (fun v wr => ∃ i : Nat, i ≤ m ∧ v = .int .i64 i ∧ Hid (Below w.heap.size w wr)) (fun v _ => m - (intOf v).toNat)
  case atStart => exact ⟨0, Nat.zero_le _, rfl, Below.refl _ _⟩
  case round =>
    obtain ⟨i, hi, rfl, HB⟩ := hrel
    by_cases hlt : i < m
    · obtain ⟨hg, hw⟩ := hgp (by omega)
      subst hg hw
      have qa := (HQ.out i hlt).1.keep HB.out
      have qb := (HQ.out i hlt).2.keep HB.out
      generalize X[i]! = x at qa qb
      have i0 : (0 : Int) ≤ (i : Int) := by omega
      have i2 : (i : Int) < (m : Int) := by omega
      have HI : Hid (i + 1 ≤ m) := hlt
      have hneq : ∀ W, (binOp .neq 77 (.agg (encQ x).toArray) (.agg (encQ x).toArray)).run Yba.prog W = .ok (.bool false) W := fun W => neq77 x W
      simp only [encQ] at hneq
      have u0 : wr.cell? ⟨g, i * 13, none⟩ = some (.int .u8 x.kind) := qa 0 (by omega)
      have u1 : wr.cell? ⟨g, i * 13 + 1, none⟩ = some (.int .i32 x.a) := qa 1 (by omega)
      have u2 : wr.cell? ⟨g, i * 13 + 2, none⟩ = some (.int .i32 x.b) := qa 2 (by omega)
      have u3 : wr.cell? ⟨g, i * 13 + 3, none⟩ = some (.int .i32 x.label) := qa 3 (by omega)
      have u4 : wr.cell? ⟨g, i * 13 + 4, none⟩ = some (.int .i64 x.d0) := qa 4 (by omega)
      have u5 : wr.cell? ⟨g, i * 13 + 5, none⟩ = some (.int .i64 x.d1) := qa 5 (by omega)
      have u6 : wr.cell? ⟨g, i * 13 + 6, none⟩ = some (.int .i64 x.d2) := qa 6 (by omega)
      have u7 : wr.cell? ⟨g, i * 13 + 7, none⟩ = some (.int .i32 x.run) := qa 7 (by omega)
      have u8 : wr.cell? ⟨g, i * 13 + 8, none⟩ = some (.int .i32 x.depth) := qa 8 (by omega)
      have u9 : wr.cell? ⟨g, i * 13 + 9, none⟩ = some (.int .i32 x.f0) := qa 9 (by omega)
      have u10 : wr.cell? ⟨g, i * 13 + 10, none⟩ = some (.int .i32 x.f1) := qa 10 (by omega)
      have u11 : wr.cell? ⟨g, i * 13 + 11, none⟩ = some (.bool x.ng) := qa 11 (by omega)
      have u12 : wr.cell? ⟨g, i * 13 + 12, none⟩ = some (.int .i8 x.md) := qa 12 (by omega)
      have v0 : wr.cell? ⟨wb, i * 13, none⟩ = some (.int .u8 x.kind) := qb 0 (by omega)
      have v1 : wr.cell? ⟨wb, i * 13 + 1, none⟩ = some (.int .i32 x.a) := qb 1 (by omega)
      have v2 : wr.cell? ⟨wb, i * 13 + 2, none⟩ = some (.int .i32 x.b) := qb 2 (by omega)
      have v3 : wr.cell? ⟨wb, i * 13 + 3, none⟩ = some (.int .i32 x.label) := qb 3 (by omega)
      have v4 : wr.cell? ⟨wb, i * 13 + 4, none⟩ = some (.int .i64 x.d0) := qb 4 (by omega)
      have v5 : wr.cell? ⟨wb, i * 13 + 5, none⟩ = some (.int .i64 x.d1) := qb 5 (by omega)
      have v6 : wr.cell? ⟨wb, i * 13 + 6, none⟩ = some (.int .i64 x.d2) := qb 6 (by omega)
      have v7 : wr.cell? ⟨wb, i * 13 + 7, none⟩ = some (.int .i32 x.run) := qb 7 (by omega)
      have v8 : wr.cell? ⟨wb, i * 13 + 8, none⟩ = some (.int .i32 x.depth) := qb 8 (by omega)
      have v9 : wr.cell? ⟨wb, i * 13 + 9, none⟩ = some (.int .i32 x.f0) := qb 9 (by omega)
      have v10 : wr.cell? ⟨wb, i * 13 + 10, none⟩ = some (.int .i32 x.f1) := qb 10 (by omega)
      have v11 : wr.cell? ⟨wb, i * 13 + 11, none⟩ = some (.bool x.ng) := qb 11 (by omega)
      have v12 : wr.cell? ⟨wb, i * 13 + 12, none⟩ = some (.int .i8 x.md) := qb 12 (by omega)
      clear qa qb
      go_wp2_with fail
      go_quiet (fail)
      have HB2 : Hid (Below w.heap.size w (wr.drewN nq)) := by
        have hl : Laid wr (wr.drewN nq) := ⟨nq, #[], by simp⟩
        exact HB.out.trans (hl.below.mono HB.out.size)
      clear u0 u1 u2 u3 u4 u5 u6 u7 u8 u9 u10 u11 u12 v0 v1 v2 v3 v4 v5 v6 v7 v8 v9 v10 v11 v12
      generalize wr.drewN nq = w5 at HB2 ⊢
      go_wp2_with fail
      go_roundw
      case rel => exact ⟨i + 1, HI.out, by go_num, HB2⟩
      case measure => have := HI.out; simp [intOf]; omega
    · have i2 : ¬ (i : Int) < (m : Int) := by omega
      go_wp2_with fail
      exact HK.out _ _ ⟨rfl, rfl, (HF.out 46).symm, ((HF.out 48).trans h48).symm, (HF.out 61).symm⟩ HB.out
end Go.Proofs.Ybulkkru.cst

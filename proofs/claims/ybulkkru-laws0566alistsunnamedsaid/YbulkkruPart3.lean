import Derived.Test.YbulkkruPart2
namespace Go.Proofs.Ybulkkru.cst
open Go.RowKit Go.Proofs Go.Proofs.Ybulkkru.net
set_option linter.unusedVariables false

noncomputable def Bk3 : Code := (Yba.f3.body.bind (findBlock 35)).getD .skip

structure Same40 (a a' : Act) : Prop where
  sz : a'.tmps.size = 474
  df : a'.defers = []
  s0 : a'.tmps.getD 0 undef = a.tmps.getD 0 undef
  s1 : a'.tmps.getD 1 undef = a.tmps.getD 1 undef
  s2 : a'.tmps.getD 2 undef = a.tmps.getD 2 undef
  s3 : a'.tmps.getD 3 undef = a.tmps.getD 3 undef
  s4 : a'.tmps.getD 4 undef = a.tmps.getD 4 undef
  s5 : a'.tmps.getD 5 undef = a.tmps.getD 5 undef
  s6 : a'.tmps.getD 6 undef = a.tmps.getD 6 undef
  s7 : a'.tmps.getD 7 undef = a.tmps.getD 7 undef
  s8 : a'.tmps.getD 8 undef = a.tmps.getD 8 undef
  s9 : a'.tmps.getD 9 undef = a.tmps.getD 9 undef
  s10 : a'.tmps.getD 10 undef = a.tmps.getD 10 undef
  s11 : a'.tmps.getD 11 undef = a.tmps.getD 11 undef
  s12 : a'.tmps.getD 12 undef = a.tmps.getD 12 undef
  s16 : a'.tmps.getD 16 undef = a.tmps.getD 16 undef
  s24 : a'.tmps.getD 24 undef = a.tmps.getD 24 undef
  s25 : a'.tmps.getD 25 undef = a.tmps.getD 25 undef
  s26 : a'.tmps.getD 26 undef = a.tmps.getD 26 undef
  s27 : a'.tmps.getD 27 undef = a.tmps.getD 27 undef
  s30 : a'.tmps.getD 30 undef = a.tmps.getD 30 undef
  s32 : a'.tmps.getD 32 undef = a.tmps.getD 32 undef
  s37 : a'.tmps.getD 37 undef = a.tmps.getD 37 undef
  s38 : a'.tmps.getD 38 undef = a.tmps.getD 38 undef
  s39 : a'.tmps.getD 39 undef = a.tmps.getD 39 undef
  s40 : a'.tmps.getD 40 undef = a.tmps.getD 40 undef

/-- The entries that lay in 'listed' before. -/
def preQ (i : Nat) : Q := ⟨0, 0, 0, 100 + (i : Int), 0, 0, 0, 0, 0, 0, 0, false, 0⟩
def preL (P : Nat) : List Q := (List.range P).map preQ
theorem preL_len (P : Nat) : (preL P).length = P := by simp [preL]
theorem preL_snoc (P : Nat) : preL (P + 1) = preL P ++ [preQ P] := by simp [preL, List.range_succ]
theorem preL_get (P i : Nat) (h : i < P) : (preL P).getD i default = preQ i := by
  rw [List.getD_eq_getElem?_getD, List.getElem?_eq_getElem (by rw [preL_len]; exact h)]
  simp [preL]

set_option maxHeartbeats 8000000 in
set_option maxRecDepth 100000 in
theorem part3 (P Lb : Nat) (w0 w : World) (a : Act) (K : Act → World → Prop) (Q' : Exit → Act → World → Prop) (hsz : a.tmps.size = 474) (hd : a.defers = []) (h40 : a.tmps.getD 40 undef = .int .i64 P) (h41 : a.tmps.getD 41 undef = .slice (some ⟨Lb, 0, none⟩) 0 P) (h42 : a.tmps.getD 42 undef = .int .i64 0)
    (hP : P ≤ 3) (hLb : w0.heap.size ≤ Lb) (hB : w.ownsRow w0.heap.size 77 13 (.slice (some ⟨Lb, 0, none⟩) 0 P) 0 []) (hk : Below w0.heap.size w0 w)
    (hK : ∀ a' w', Same40 a a' → a'.tmps.getD 41 undef = .slice (some ⟨Lb, 0, none⟩) P P → w'.ownsRow w0.heap.size 77 13 (.slice (some ⟨Lb, 0, none⟩) P P) P ((preL P).flatMap encQ) → Below w0.heap.size w0 w' → K a' w') : Code.wp Yba.prog Bk3 (Exit.then K Q') a w := by
  obtain ⟨i77, hi77, hz77, hs77, hb77⟩ := info_parts info77
  obtain ⟨t, df⟩ := a
  simp only at hsz hd h40 h41 h42
  subst hd
  obtain ⟨f, hf, rfl⟩ := lit474 t hsz
  rw [hf] at h40 h41 h42
  have HK : Hid _ := hK
  have HO : Hid (w.ownsRow w0.heap.size 77 13 (.slice (some ⟨Lb, 0, none⟩) 0 P) 0 []) := hB
  have HB : Hid (Below w0.heap.size w0 w) := hk
  have HF : Hid _ := hf
  clear hK hB hf hsz hk
  rw [h40, h41, h42]
  conv => arg 2; whnf
  go_wp2_with fail
  go_loopw [41, 42] (fun lv v wr => ∃ j : Nat, j ≤ P ∧ v = .int .i64 j ∧ lv = .slice (some ⟨Lb, 0, none⟩) j P ∧ Hid (wr.ownsRow w0.heap.size 77 13 (.slice (some ⟨Lb, 0, none⟩) j P) j ((preL j).flatMap encQ)) ∧ Hid (Below w0.heap.size w0 wr)) (fun _ v _ => P - (intOf v).toNat)
  case atStart => exact ⟨0, Nat.zero_le _, rfl, rfl, HO, HB⟩
  case round =>
    obtain ⟨j, hj, rfl, rfl, HJ, HBJ⟩ := hrel
    clear HB HO
    by_cases hlt : j < P
    · have a1 : (j : Int) < (P : Int) := by omega
      have HLT : Hid (j + 1 ≤ P) := hlt
      have w32 : IntKind.i32.wrap (100 + (j : Int)) = 100 + (j : Int) := by rw [IntKind.wrap_i32]; omega
      go_wp2_with (at_builtin; go_loud (refine wpList_append_fits _ rfl (.tmp 202) (.tmp 207) 59 rfl w0.heap.size 77 i77 13 Yba.underlying59 hi77 hs77 Lb j P ((preL j).flatMap encQ) rfl (World.ownsRow.alloc HJ.out _) ⟨wr.heap.size, 0, none⟩ 1 1 (encQ (preQ j)) rfl rfl (newsQ wr (preQ j)) (encQ_one _) (by omega) ?_); intro w3 ho hg)
      have HJ3 : Hid (w3.ownsRow w0.heap.size 77 13 (.slice (some ⟨Lb, 0, none⟩) (j + 1) P) (j + 1) ((preL (j + 1)).flatMap encQ)) := by
        rw [preL_snoc, List.flatMap_append]
        show w3.ownsRow _ _ _ _ _ _
        simpa using ho
      have HB3 : Hid (Below w0.heap.size w0 w3) := (HBJ.out.alloc HBJ.out.size _).grown hg (by have := HBJ.out.size; simp; omega) (fun k h => by simp at h; omega)
      clear ho hg HJ HBJ
      go_wp2_with fail
      go_roundw
      case rel => exact ⟨j + 1, HLT.out, by go_num, rfl, HJ3, HB3⟩
      case measure => have := HLT.out; simp [intOf]; omega
    · have hje : j = P := by omega
      subst hje
      have a1 : ¬ (j : Int) < (j : Int) := by omega
      go_wp2_with fail
      exact HK.out _ _ ⟨rfl, rfl, (HF.out 0).symm, (HF.out 1).symm, (HF.out 2).symm, (HF.out 3).symm, (HF.out 4).symm, (HF.out 5).symm, (HF.out 6).symm, (HF.out 7).symm, (HF.out 8).symm, (HF.out 9).symm, (HF.out 10).symm, (HF.out 11).symm, (HF.out 12).symm, (HF.out 16).symm, (HF.out 24).symm, (HF.out 25).symm, (HF.out 26).symm, (HF.out 27).symm, (HF.out 30).symm, (HF.out 32).symm, (HF.out 37).symm, (HF.out 38).symm, (HF.out 39).symm, ((HF.out 40).trans h40).symm⟩ rfl HJ.out HBJ.out
end Go.Proofs.Ybulkkru.cst

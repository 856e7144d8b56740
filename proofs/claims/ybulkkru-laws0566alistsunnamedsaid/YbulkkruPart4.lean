import Derived.Test.YbulkkruPart3
import Derived.Test.YbulkkruListB
namespace Go.Proofs.Ybulkkru.cst
open Go.RowKit Go.Proofs Go.Proofs.Ybulkkru.net
set_option linter.unusedVariables false

noncomputable def Bk4 : Code := (Yba.f3.body.bind (findBlock 47)).getD .skip

structure Same47 (a a' : Act) : Prop where
  sz : a'.tmps.size = 474
  df : a'.defers = []
  s0 : a'.tmps.getD 0 undef = a.tmps.getD 0 undef
  s1 : a'.tmps.getD 1 undef = a.tmps.getD 1 undef
  s2 : a'.tmps.getD 2 undef = a.tmps.getD 2 undef
  s3 : a'.tmps.getD 3 undef = a.tmps.getD 3 undef
  s4 : a'.tmps.getD 4 undef = a.tmps.getD 4 undef
  s5 : a'.tmps.getD 5 undef = a.tmps.getD 5 undef
  s6 : a'.tmps.getD 6 undef = a.tmps.getD 6 undef
  s7 : a'.tmps.getD 7 undef = a.tmps.getD 7 undef
  s8 : a'.tmps.getD 8 undef = a.tmps.getD 8 undef
  s9 : a'.tmps.getD 9 undef = a.tmps.getD 9 undef
  s10 : a'.tmps.getD 10 undef = a.tmps.getD 10 undef
  s11 : a'.tmps.getD 11 undef = a.tmps.getD 11 undef
  s12 : a'.tmps.getD 12 undef = a.tmps.getD 12 undef
  s16 : a'.tmps.getD 16 undef = a.tmps.getD 16 undef
  s24 : a'.tmps.getD 24 undef = a.tmps.getD 24 undef
  s25 : a'.tmps.getD 25 undef = a.tmps.getD 25 undef
  s26 : a'.tmps.getD 26 undef = a.tmps.getD 26 undef
  s27 : a'.tmps.getD 27 undef = a.tmps.getD 27 undef
  s30 : a'.tmps.getD 30 undef = a.tmps.getD 30 undef
  s32 : a'.tmps.getD 32 undef = a.tmps.getD 32 undef
  s37 : a'.tmps.getD 37 undef = a.tmps.getD 37 undef
  s38 : a'.tmps.getD 38 undef = a.tmps.getD 38 undef
  s39 : a'.tmps.getD 39 undef = a.tmps.getD 39 undef
  s40 : a'.tmps.getD 40 undef = a.tmps.getD 40 undef
  s41 : a'.tmps.getD 41 undef = a.tmps.getD 41 undef
  s43 : a'.tmps.getD 43 undef = a.tmps.getD 43 undef
  s44 : a'.tmps.getD 44 undef = a.tmps.getD 44 undef
  s45 : a'.tmps.getD 45 undef = a.tmps.getD 45 undef
  s46 : a'.tmps.getD 46 undef = a.tmps.getD 46 undef
  s47 : a'.tmps.getD 47 undef = a.tmps.getD 47 undef

theorem has_take {zs : List Int} {i : Nat} {x : Int} (h : i < zs.length) : hasL (zs.take (i + 1)) x = (hasL (zs.take i) x || (zs.getD i 0 == x)) := by
  have e : (zs.getD i 0 == x) = (x == zs.getD i 0) := by rw [Bool.eq_iff_iff]; simp only [beq_iff_eq]; exact eq_comm
  rw [take_snoc zs 0 i h, e]
  unfold hasL
  rw [List.contains_eq_any_beq, List.contains_eq_any_beq, List.any_append]
  simp

theorem wrap_is64 (n : Int) : IntKind.i64.wrap n = wrap64 n := by rw [IntKind.wrap_i64]; unfold wrap64; omega
theorem named_or (pin b : Int) (orig cur : List Int) : (((b == pin) || hasL orig b) || hasL cur b) = namedB pin b orig cur := by
  unfold namedB
  cases b == pin <;> cases hasL orig b <;> simp

theorem k15c {w w' : World} {p0 p1 p2 p3 p4 p5 p6 p7 p8 p9 p10 p11 p12 p13 p14 : Addr} {x0 x1 x2 x3 x4 x5 x6 x7 x8 x9 x10 x11 x12 x13 x14 : Value} (h : w.cell? p0 = some x0 ∧ w.cell? p1 = some x1 ∧ w.cell? p2 = some x2 ∧ w.cell? p3 = some x3 ∧ w.cell? p4 = some x4 ∧ w.cell? p5 = some x5 ∧ w.cell? p6 = some x6 ∧ w.cell? p7 = some x7 ∧ w.cell? p8 = some x8 ∧ w.cell? p9 = some x9 ∧ w.cell? p10 = some x10 ∧ w.cell? p11 = some x11 ∧ w.cell? p12 = some x12 ∧ w.cell? p13 = some x13 ∧ w.cell? p14 = some x14) (hb : Below w.heap.size w w') : w'.cell? p0 = some x0 ∧ w'.cell? p1 = some x1 ∧ w'.cell? p2 = some x2 ∧ w'.cell? p3 = some x3 ∧ w'.cell? p4 = some x4 ∧ w'.cell? p5 = some x5 ∧ w'.cell? p6 = some x6 ∧ w'.cell? p7 = some x7 ∧ w'.cell? p8 = some x8 ∧ w'.cell? p9 = some x9 ∧ w'.cell? p10 = some x10 ∧ w'.cell? p11 = some x11 ∧ w'.cell? p12 = some x12 ∧ w'.cell? p13 = some x13 ∧ w'.cell? p14 = some x14 :=
  ⟨cell_keeps hb h.1, cell_keeps hb h.2.1, cell_keeps hb h.2.2.1, cell_keeps hb h.2.2.2.1, cell_keeps hb h.2.2.2.2.1, cell_keeps hb h.2.2.2.2.2.1, cell_keeps hb h.2.2.2.2.2.2.1, cell_keeps hb h.2.2.2.2.2.2.2.1, cell_keeps hb h.2.2.2.2.2.2.2.2.1, cell_keeps hb h.2.2.2.2.2.2.2.2.2.1, cell_keeps hb h.2.2.2.2.2.2.2.2.2.2.1, cell_keeps hb h.2.2.2.2.2.2.2.2.2.2.2.1, cell_keeps hb h.2.2.2.2.2.2.2.2.2.2.2.2.1, cell_keeps hb h.2.2.2.2.2.2.2.2.2.2.2.2.2.1, cell_keeps hb h.2.2.2.2.2.2.2.2.2.2.2.2.2.2⟩
theorem k15g {w w' : World} {b0 b1 B0 B1 B2 B3 B4 B5 B6 B7 B8 B9 B10 B11 B12 B13 B14 o0 o1 o2 o3 o4 o5 o6 o7 o8 o9 o10 o11 o12 o13 o14 : Nat} {x0 x1 x2 x3 x4 x5 x6 x7 x8 x9 x10 x11 x12 x13 x14 : Value} (h : w.cell? ⟨B0, o0, none⟩ = some x0 ∧ w.cell? ⟨B1, o1, none⟩ = some x1 ∧ w.cell? ⟨B2, o2, none⟩ = some x2 ∧ w.cell? ⟨B3, o3, none⟩ = some x3 ∧ w.cell? ⟨B4, o4, none⟩ = some x4 ∧ w.cell? ⟨B5, o5, none⟩ = some x5 ∧ w.cell? ⟨B6, o6, none⟩ = some x6 ∧ w.cell? ⟨B7, o7, none⟩ = some x7 ∧ w.cell? ⟨B8, o8, none⟩ = some x8 ∧ w.cell? ⟨B9, o9, none⟩ = some x9 ∧ w.cell? ⟨B10, o10, none⟩ = some x10 ∧ w.cell? ⟨B11, o11, none⟩ = some x11 ∧ w.cell? ⟨B12, o12, none⟩ = some x12 ∧ w.cell? ⟨B13, o13, none⟩ = some x13 ∧ w.cell? ⟨B14, o14, none⟩ = some x14) (hk : ∀ B x v, (B < b0 ∨ b1 ≤ B) → w.cell? ⟨B, x, none⟩ = some v → w'.cell? ⟨B, x, none⟩ = some v) (e0 : B0 < b0 ∨ b1 ≤ B0) (e1 : B1 < b0 ∨ b1 ≤ B1) (e2 : B2 < b0 ∨ b1 ≤ B2) (e3 : B3 < b0 ∨ b1 ≤ B3) (e4 : B4 < b0 ∨ b1 ≤ B4) (e5 : B5 < b0 ∨ b1 ≤ B5) (e6 : B6 < b0 ∨ b1 ≤ B6) (e7 : B7 < b0 ∨ b1 ≤ B7) (e8 : B8 < b0 ∨ b1 ≤ B8) (e9 : B9 < b0 ∨ b1 ≤ B9) (e10 : B10 < b0 ∨ b1 ≤ B10) (e11 : B11 < b0 ∨ b1 ≤ B11) (e12 : B12 < b0 ∨ b1 ≤ B12) (e13 : B13 < b0 ∨ b1 ≤ B13) (e14 : B14 < b0 ∨ b1 ≤ B14) : w'.cell? ⟨B0, o0, none⟩ = some x0 ∧ w'.cell? ⟨B1, o1, none⟩ = some x1 ∧ w'.cell? ⟨B2, o2, none⟩ = some x2 ∧ w'.cell? ⟨B3, o3, none⟩ = some x3 ∧ w'.cell? ⟨B4, o4, none⟩ = some x4 ∧ w'.cell? ⟨B5, o5, none⟩ = some x5 ∧ w'.cell? ⟨B6, o6, none⟩ = some x6 ∧ w'.cell? ⟨B7, o7, none⟩ = some x7 ∧ w'.cell? ⟨B8, o8, none⟩ = some x8 ∧ w'.cell? ⟨B9, o9, none⟩ = some x9 ∧ w'.cell? ⟨B10, o10, none⟩ = some x10 ∧ w'.cell? ⟨B11, o11, none⟩ = some x11 ∧ w'.cell? ⟨B12, o12, none⟩ = some x12 ∧ w'.cell? ⟨B13, o13, none⟩ = some x13 ∧ w'.cell? ⟨B14, o14, none⟩ = some x14 :=
  ⟨hk _ _ _ e0 h.1, hk _ _ _ e1 h.2.1, hk _ _ _ e2 h.2.2.1, hk _ _ _ e3 h.2.2.2.1, hk _ _ _ e4 h.2.2.2.2.1, hk _ _ _ e5 h.2.2.2.2.2.1, hk _ _ _ e6 h.2.2.2.2.2.2.1, hk _ _ _ e7 h.2.2.2.2.2.2.2.1, hk _ _ _ e8 h.2.2.2.2.2.2.2.2.1, hk _ _ _ e9 h.2.2.2.2.2.2.2.2.2.1, hk _ _ _ e10 h.2.2.2.2.2.2.2.2.2.2.1, hk _ _ _ e11 h.2.2.2.2.2.2.2.2.2.2.2.1, hk _ _ _ e12 h.2.2.2.2.2.2.2.2.2.2.2.2.1, hk _ _ _ e13 h.2.2.2.2.2.2.2.2.2.2.2.2.2.1, hk _ _ _ e14 h.2.2.2.2.2.2.2.2.2.2.2.2.2.2⟩
theorem app_cells {wB wX wD : World} {row : Option Nat} {b0 b1 : Nat} (hb : Below wB.heap.size wB wX) (hg : wX.grownBy wD row) (hr : ∀ k, row = some k → b0 ≤ k ∧ k < b1) : ∀ B x v, (B < b0 ∨ b1 ≤ B) → wB.cell? ⟨B, x, none⟩ = some v → wD.cell? ⟨B, x, none⟩ = some v :=
  fun B x v hB hv => hg.cell (cell_keeps hb hv) (fun e => by have := hr B e.symm; omega)

/-- What the want's loop reads. -/
structure WPre (w : World) (oo co tp : Option Addr) (orig cur : List Int) (ths : List Th) (At Gb Np nB : Nat) (a0 a1 a2 g0 g1 g2 : Int) (np : Nat → Nat) : Prop where
  ro : RowI w oo orig
  rc : RowI w co cur
  row : thRow w tp [] ths
  hold : ∀ t ∈ ths, HoldAt w t.H t.held t.o t.a t.l
  at0 : w.cell? ⟨At, 0, none⟩ = some (.int .i64 a0)
  at1 : w.cell? ⟨At, 1, none⟩ = some (.int .i64 a1)
  at2 : w.cell? ⟨At, 2, none⟩ = some (.int .i64 a2)
  gb0 : w.cell? ⟨Gb, 0, none⟩ = some (.int .u8 g0)
  gb1 : w.cell? ⟨Gb, 1, none⟩ = some (.int .i32 g1)
  gb2 : w.cell? ⟨Gb, 2, none⟩ = some (.int .i32 g2)
  npc : ∀ b, b < nB → w.cell? ⟨Np, b, none⟩ = some (.int .i32 (np b))
  bnd : ∀ t ∈ ths, t.b < nB

theorem WPre.keep {w w' : World} {oo co tp : Option Addr} {orig cur : List Int} {ths : List Th} {At Gb Np nB : Nat} {a0 a1 a2 g0 g1 g2 : Int} {np : Nat → Nat} (h : WPre w oo co tp orig cur ths At Gb Np nB a0 a1 a2 g0 g1 g2 np) (hb : Below w.heap.size w w') : WPre w' oo co tp orig cur ths At Gb Np nB a0 a1 a2 g0 g1 g2 np :=
  ⟨h.ro.keep hb, h.rc.keep hb, fun hz => by
    obtain ⟨T, e, hT, hc⟩ := h.row hz
    exact ⟨T, e, hT, fun j hj => ⟨cell_keeps hb (hc j hj).1, cell_keeps hb (hc j hj).2⟩⟩, fun t ht => (h.hold t ht).keep hb, cell_keeps hb h.at0, cell_keeps hb h.at1, cell_keeps hb h.at2, cell_keeps hb h.gb0, cell_keeps hb h.gb1, cell_keeps hb h.gb2, fun b hb' => cell_keeps hb (h.npc b hb'), h.bnd⟩

set_option maxHeartbeats 8000000 in
set_option maxRecDepth 100000 in
theorem part4 (nB Np At Gb k tcap ocap ccap : Nat) (oo co tp : Option Addr) (orig cur : List Int) (ths : List Th) (topic pin depth a0 a1 a2 g0 g1 g2 : Int) (np : Nat → Nat) (w : World) (a : Act) (K : Act → World → Prop) (Q' : Exit → Act → World → Prop) (hsz : a.tmps.size = 474) (hd : a.defers = [])
    (h0 : a.tmps.getD 0 undef = .int .i32 topic) (h1 : a.tmps.getD 1 undef = .int .i32 pin) (h2 : a.tmps.getD 2 undef = .slice oo orig.length ocap) (h3 : a.tmps.getD 3 undef = .slice co cur.length ccap) (h9 : a.tmps.getD 9 undef = .int .i32 depth) (h27 : a.tmps.getD 27 undef = .slice (some ⟨Np, 0, none⟩) nB nB)
    (h38 : a.tmps.getD 38 undef = .pointer (some ⟨At, 0, none⟩)) (h39 : a.tmps.getD 39 undef = .pointer (some ⟨Gb, 0, none⟩)) (h43 : a.tmps.getD 43 undef = .int .i32 k) (h48 : a.tmps.getD 48 undef = .slice none 0 0) (h243 : a.tmps.getD 243 undef = .slice tp ths.length tcap) (h244 : a.tmps.getD 244 undef = .int .i64 ths.length) (h245 : a.tmps.getD 245 undef = .int .i64 0)
    (hk : k < 2) (hol : orig.length ≤ 1024) (hcl : cur.length ≤ 1024) (htl : ths.length ≤ 1024) (hnB : nB ≤ 8) (hW : WPre w oo co tp orig cur ths At Gb Np nB a0 a1 a2 g0 g1 g2 np)
    (hK : ∀ a' w' wv, Same47 a a' → a'.tmps.getD 48 undef = wv → w'.ownsRow w.heap.size 77 13 wv (wantL topic pin a0 a1 a2 g0 g1 g2 ((k : Int) + 1) depth np orig cur ths).length ((wantL topic pin a0 a1 a2 g0 g1 g2 ((k : Int) + 1) depth np orig cur ths).flatMap encQ) → Below w.heap.size w w' → K a' w') : Code.wp Yba.prog Bk4 (Exit.then K Q') a w := by
  obtain ⟨t, df⟩ := a
  simp only at hsz hd h0 h1 h2 h3 h9 h27 h38 h39 h43 h48 h243 h244 h245
  subst hd
  obtain ⟨f, hf, rfl⟩ := lit474 t hsz
  rw [hf] at h0 h1 h2 h3 h9 h27 h38 h39 h43 h48 h243 h244 h245
  have HK : Hid _ := hK
  have HW : Hid _ := hW
  have HF : Hid _ := hf
  clear hK hW hf hsz
  rw [h0, h1, h2, h3, h9, h27, h38, h39, h43, h48, h243, h244, h245]
  conv => arg 2; whnf
  go_wp2_with fail
  go_loopw [48, 245] (fun wv v wr => ∃ j : Nat, j ≤ ths.length ∧ v = .int .i64 j ∧ Hid (wr.ownsRow w.heap.size 77 13 wv (wantL topic pin a0 a1 a2 g0 g1 g2 ((k : Int) + 1) depth np orig cur (ths.take j)).length ((wantL topic pin a0 a1 a2 g0 g1 g2 ((k : Int) + 1) depth np orig cur (ths.take j)).flatMap encQ)) ∧ Hid (Below w.heap.size w wr)) (fun _ v _ => ths.length - (intOf v).toNat)
  case atStart => exact ⟨0, Nat.zero_le _, rfl, World.ownsRow_nil _ _ _ _, Below.refl _ _⟩
  case round =>
    obtain ⟨j, hj, rfl, HO, HB⟩ := hrel
    obtain ⟨wo, rfl⟩ : ∃ wo, wo = wr := ⟨_, rfl⟩
    by_cases hlt : j < ths.length
    · have j0 : (0 : Int) ≤ (j : Int) := by omega
      have j1 : (j : Int) < (ths.length : Int) := by omega
      have HJ : Hid (j + 1 ≤ ths.length) := hlt
      have HWo : Hid _ := HW.out.keep HB.out
      obtain ⟨T, rfl, _, hc⟩ := HWo.out.row (by omega)
      have c1 := (hc j hlt).1
      have c2 := (hc j hlt).2
      have HM : Hid (ths.getD j default ∈ ths) := getD_mem hlt
      have HNm := fun h => want_named (topic := topic) (pin := pin) (a0 := a0) (a1 := a1) (a2 := a2) (g0 := g0) (g1 := g1) (g2 := g2) (rn := (k : Int) + 1) (dp := depth) (np := np) (orig := orig) (cur := cur) hlt h
      have HNw := fun h => want_new (topic := topic) (pin := pin) (a0 := a0) (a1 := a1) (a2 := a2) (g0 := g0) (g1 := g1) (g2 := g2) (rn := (k : Int) + 1) (dp := depth) (np := np) (orig := orig) (cur := cur) hlt h
      have HN1 : Hid _ := HNm
      have HN2 : Hid _ := HNw
      clear hc HNm HNw
      generalize ths.getD j default = t at c1 c2 HM HN1 HN2
      go_wp2_with fail
      have hbA : Below wo.heap.size wo (wo.alloc (.cells #[.int .i32 t.b, .pointer (some ⟨t.H, 0, none⟩)] 44)) := (Below.refl _ _).alloc (Nat.le_refl _) _
      have hqA : (wo.alloc (.cells #[.int .i32 t.b, .pointer (some ⟨t.H, 0, none⟩)] 44)).heap[wo.heap.size]? = some (.cells #[.int .i32 t.b, .pointer (some ⟨t.H, 0, none⟩)] 44 (0, 0)) := heap_alloc_new _ _
      generalize wo.alloc (.cells #[.int .i32 t.b, .pointer (some ⟨t.H, 0, none⟩)] 44) = wA at hbA hqA ⊢
      have HA : Hid _ := HWo.out.keep hbA
      have HBA : Hid (Below wo.heap.size wo wA) := hbA
      have HQA : Hid _ := hqA
      clear hbA hqA c1 c2
      go_loopw [52, 256] (fun nv v wq => wq = wA ∧ ∃ i : Nat, i ≤ orig.length ∧ v = .int .i64 i ∧ nv = .bool (((t.b : Int) == pin) || hasL (orig.take i) t.b)) (fun _ v _ => orig.length - (intOf v).toNat)
      case atStart => exact ⟨rfl, 0, Nat.zero_le _, rfl, by simp [hasL]⟩
      case round =>
        obtain ⟨rfl, i, hi, rfl, rfl⟩ := hrel
        by_cases hil : i < orig.length
        · obtain ⟨ob, of', rfl, hco⟩ := HA.out.ro (by omega)
          have d0 := hco i hil
          have i0 : (0 : Int) ≤ (i : Int) := by omega
          have i1 : (i : Int) < (orig.length : Int) := by omega
          have HT : Hid _ := has_take (x := (t.b : Int)) hil
          have HI : Hid (i + 1 ≤ orig.length) := hil
          generalize orig.getD i 0 = oz at d0 HT
          clear hco
          cases hoz : (oz == (t.b : Int)) with
          | true =>
            go_wp2_with fail
            go_roundw
            case rel => exact ⟨trivial, i + 1, HI.out, by go_num, by rw [HT.out, hoz]; simp⟩
            case measure => have := HI.out; simp [intOf]; omega
          | false =>
            go_wp2_with fail
            go_roundw
            case rel => exact ⟨trivial, i + 1, HI.out, by go_num, by rw [HT.out, hoz]; simp⟩
            case measure => have := HI.out; simp [intOf]; omega
        · have hie : i = orig.length := by omega
          subst hie
          rw [List.take_of_length_le (Nat.le_refl _)]
          go_wp2_with fail
          obtain ⟨wA, rfl⟩ : ∃ wA, wA = wr := ⟨_, rfl⟩
          go_loopw [52, 266] (fun nv v wq => wq = wA ∧ ∃ i : Nat, i ≤ cur.length ∧ v = .int .i64 i ∧ nv = .bool ((((t.b : Int) == pin) || hasL orig t.b) || hasL (cur.take i) t.b)) (fun _ v _ => cur.length - (intOf v).toNat)
          case atStart => exact ⟨rfl, 0, Nat.zero_le _, rfl, by simp [hasL]⟩
          case round =>
            obtain ⟨rfl, i, hi, rfl, rfl⟩ := hrel
            by_cases hil : i < cur.length
            · obtain ⟨ob, of', rfl, hco⟩ := HA.out.rc (by omega)
              have d0 := hco i hil
              have i0 : (0 : Int) ≤ (i : Int) := by omega
              have i1 : (i : Int) < (cur.length : Int) := by omega
              have HT : Hid _ := has_take (x := (t.b : Int)) hil
              have HI : Hid (i + 1 ≤ cur.length) := hil
              generalize cur.getD i 0 = oz at d0 HT
              clear hco
              cases hoz : (oz == (t.b : Int)) with
              | true =>
                go_wp2_with fail
                go_roundw
                case rel => exact ⟨trivial, i + 1, HI.out, by go_num, by rw [HT.out, hoz]; simp⟩
                case measure => have := HI.out; simp [intOf]; omega
              | false =>
                go_wp2_with fail
                go_roundw
                case rel => exact ⟨trivial, i + 1, HI.out, by go_num, by rw [HT.out, hoz]; simp⟩
                case measure => have := HI.out; simp [intOf]; omega
            · have hie : i = cur.length := by omega
              subst hie
              rw [List.take_of_length_le (Nat.le_refl _)]
              have hnm : ((((t.b : Int) == pin) || hasL orig t.b) || hasL cur t.b) = namedB pin t.b orig cur := named_or _ _ _ _
              rw [hnm]
              obtain ⟨wA, rfl⟩ : ∃ wA, wA = wr := ⟨_, rfl⟩
              cases hnv : namedB pin t.b orig cur with
              | true =>
                go_wp2_with fail
                go_roundw
                case rel => exact ⟨j + 1, HJ.out, by go_num, by rw [HN1.out hnv]; exact own_of_block HO.out (fun g hg => HBA.out.block g (HO.out.lt g hg).2), HB.out.trans (HBA.out.mono HB.out.size)⟩
                case measure => have := HJ.out; simp [intOf]; omega
              | false =>
                have HH := HA.out.hold t HM.out
                have tb1 : wA.cell? ⟨wo.heap.size, 1, none⟩ = some (.pointer (some ⟨t.H, 0, none⟩)) := cellAt HQA.out rfl
                have hh3 := HH.c3
                have hh4 := HH.c4
                have hh5 := HH.c5
                have hbn := HA.out.bnd t HM.out
                have hb0 : (0 : Int) ≤ (t.b : Int) := by omega
                have hb1 : (t.b : Int) < (nB : Int) := by omega
                go_upto_region 65 with (fail)
                have hbV : Below wA.heap.size wA (wA.alloc (.cells #[.int .u8 3, .int .i32 topic, .int .i32 t.b] 66)) := (Below.refl _ _).alloc (Nat.le_refl _) _
                have hqV : (wA.alloc (.cells #[.int .u8 3, .int .i32 topic, .int .i32 t.b] 66)).heap[wA.heap.size]? = some (.cells #[.int .u8 3, .int .i32 topic, .int .i32 t.b] 66 (0, 0)) := heap_alloc_new _ _
                have hzV : (wA.alloc (.cells #[.int .u8 3, .int .i32 topic, .int .i32 t.b] 66)).heap.size = wA.heap.size + 1 := by simp
                generalize wA.alloc (.cells #[.int .u8 3, .int .i32 topic, .int .i32 t.b] 66) = wV at hbV hqV hzV ⊢
                have tb1 := cell_keeps hbV tb1
                have hh3 := cell_keeps hbV hh3
                have hh4 := cell_keeps hbV hh4
                have hh5 := cell_keeps hbV hh5
                have HbV : Hid (Below wA.heap.size wA wV) := hbV
                have HqV : Hid _ := hqV
                have HzV : Hid (wV.heap.size = wA.heap.size + 1) := hzV
                clear hbV hqV hzV
                go_upto_region 66 with (fail)
                have hbB : Below wA.heap.size wA (wV.alloc (.cells #[.int .i64 t.o, .int .i64 t.a, .int .i64 t.l] 28)) := HbV.out.alloc HbV.out.size _
                have hqB : (wV.alloc (.cells #[.int .i64 t.o, .int .i64 t.a, .int .i64 t.l] 28)).heap[wA.heap.size]? = some (.cells #[.int .u8 3, .int .i32 topic, .int .i32 t.b] 66 (0, 0)) := (Below.heap_alloc _ _ _ (by rw [HzV.out]; omega)).trans HqV.out
                have hrB : (wV.alloc (.cells #[.int .i64 t.o, .int .i64 t.a, .int .i64 t.l] 28)).heap[wA.heap.size + 1]? = some (.cells #[.int .i64 t.o, .int .i64 t.a, .int .i64 t.l] 28 (0, 0)) := by
                  rw [← HzV.out]; exact heap_alloc_new _ _
                rw [HzV.out]
                generalize wV.alloc (.cells #[.int .i64 t.o, .int .i64 t.a, .int .i64 t.l] 28) = wB at hbB hqB hrB ⊢
                have HWB := HA.out.keep hbB
                have HHB := HWB.hold t HM.out
                have H15 : Hid (wB.cell? ⟨wA.heap.size, 0, none⟩ = some (.int .u8 3) ∧ wB.cell? ⟨wA.heap.size, 1, none⟩ = some (.int .i32 topic) ∧ wB.cell? ⟨wA.heap.size, 2, none⟩ = some (.int .i32 t.b) ∧ wB.cell? ⟨At, 0, none⟩ = some (.int .i64 a0) ∧ wB.cell? ⟨At, 1, none⟩ = some (.int .i64 a1) ∧ wB.cell? ⟨At, 2, none⟩ = some (.int .i64 a2) ∧ wB.cell? ⟨wA.heap.size + 1, 0, none⟩ = some (.int .i64 t.o) ∧ wB.cell? ⟨wA.heap.size + 1, 1, none⟩ = some (.int .i64 t.a) ∧ wB.cell? ⟨wA.heap.size + 1, 2, none⟩ = some (.int .i64 t.l) ∧ wB.cell? ⟨Gb, 0, none⟩ = some (.int .u8 g0) ∧ wB.cell? ⟨Gb, 1, none⟩ = some (.int .i32 g1) ∧ wB.cell? ⟨Gb, 2, none⟩ = some (.int .i32 g2) ∧ wB.cell? ⟨wo.heap.size, 1, none⟩ = some (.pointer (some ⟨t.H, 0, none⟩)) ∧ wB.cell? ⟨t.H, 0, none⟩ = some (.int .i64 t.held) ∧ wB.cell? ⟨Np, t.b, none⟩ = some (.int .i32 (np t.b))) :=
                  ⟨cellAt hqB rfl, cellAt hqB rfl, cellAt hqB rfl, HWB.at0, HWB.at1, HWB.at2, cellAt hrB rfl, cellAt hrB rfl, cellAt hrB rfl, HWB.gb0, HWB.gb1, HWB.gb2, cell_keeps hbB (cellAt HQA.out rfl), HHB.c0, HWB.npc t.b hbn⟩
                have hB0 := HB.out.size
                have hA0 := HBA.out.size
                have EV : Hid (wA.heap.size < w.heap.size ∨ wo.heap.size ≤ wA.heap.size) := Or.inr hA0
                have EP : Hid (wA.heap.size + 1 < w.heap.size ∨ wo.heap.size ≤ wA.heap.size + 1) := Or.inr (Nat.le_succ_of_le hA0)
                have EO : Hid (wo.heap.size < w.heap.size ∨ wo.heap.size ≤ wo.heap.size) := Or.inr (Nat.le_refl _)
                have EA : Hid (At < w.heap.size ∨ wo.heap.size ≤ At) := Or.inl (World.block_lt_of_cell? _ _ HW.out.at0)
                have EG : Hid (Gb < w.heap.size ∨ wo.heap.size ≤ Gb) := Or.inl (World.block_lt_of_cell? _ _ HW.out.gb0)
                have EN : Hid (Np < w.heap.size ∨ wo.heap.size ≤ Np) := Or.inl (World.block_lt_of_cell? _ _ (HW.out.npc t.b hbn))
                have EH : Hid (t.H < w.heap.size ∨ wo.heap.size ≤ t.H) := Or.inl (HW.out.hold t HM.out).lt
                clear hB0 hA0
                have HBB : Hid (Below wo.heap.size wo wB) := HBA.out.trans (hbB.mono HBA.out.size)
                clear hbB hqB hrB HWB HHB tb1 hh3 hh4 hh5 HH
                have hneq := fun W => neq66 3 topic t.b g0 g1 g2 W
                have wr0 := wrap_is64 (a0 - t.o)
                have wr1 := wrap_is64 (a1 - t.a)
                have wr2 := wrap_is64 (a2 - t.l)
                have kw : IntKind.i32.wrap ((k : Int) + 1) = (k : Int) + 1 := by rw [IntKind.wrap_i32]; omega
                have HE : Hid (entQ topic a0 a1 a2 g0 g1 g2 ((k : Int) + 1) depth np t = ⟨3, topic, t.b, 0, wrap64 (a0 - t.o), wrap64 (a1 - t.a), wrap64 (a2 - t.l), (k : Int) + 1, depth, IntKind.i32.wrap t.held, np t.b, nd 3 topic t.b g0 g1 g2, 2⟩) := show _ = _ from rfl
                generalize nd 3 topic t.b g0 g1 g2 = ndv at hneq HE
                have HNV : Hid (namedB pin t.b orig cur = false) := hnv
                have HWl : Hid ((wantL topic pin a0 a1 a2 g0 g1 g2 ((k : Int) + 1) depth np orig cur (ths.take j)).length ≤ 100000) := show _ ≤ _ by
                  have h1 := want_len (topic := topic) (pin := pin) (a0 := a0) (a1 := a1) (a2 := a2) (g0 := g0) (g1 := g1) (g2 := g2) (rn := (k : Int) + 1) (dp := depth) (np := np) (orig := orig) (cur := cur) (ths := ths.take j)
                  have h2 : (ths.take j).length ≤ ths.length := by rw [List.length_take]; exact Nat.min_le_right _ _
                  omega
                have HN3 : Hid _ := HN2.out hnv
                clear hnv
                generalize wantL topic pin a0 a1 a2 g0 g1 g2 ((k : Int) + 1) depth np orig cur (ths.take j) = WL at HO HWl HN3
                go_region_held3 (fun w' => w'.cell? ⟨wA.heap.size, 0, none⟩ = some (.int .u8 3) ∧ w'.cell? ⟨wA.heap.size, 1, none⟩ = some (.int .i32 topic) ∧ w'.cell? ⟨wA.heap.size, 2, none⟩ = some (.int .i32 t.b) ∧ w'.cell? ⟨At, 0, none⟩ = some (.int .i64 a0) ∧ w'.cell? ⟨At, 1, none⟩ = some (.int .i64 a1) ∧ w'.cell? ⟨At, 2, none⟩ = some (.int .i64 a2) ∧ w'.cell? ⟨wA.heap.size + 1, 0, none⟩ = some (.int .i64 t.o) ∧ w'.cell? ⟨wA.heap.size + 1, 1, none⟩ = some (.int .i64 t.a) ∧ w'.cell? ⟨wA.heap.size + 1, 2, none⟩ = some (.int .i64 t.l) ∧ w'.cell? ⟨Gb, 0, none⟩ = some (.int .u8 g0) ∧ w'.cell? ⟨Gb, 1, none⟩ = some (.int .i32 g1) ∧ w'.cell? ⟨Gb, 2, none⟩ = some (.int .i32 g2) ∧ w'.cell? ⟨wo.heap.size, 1, none⟩ = some (.pointer (some ⟨t.H, 0, none⟩)) ∧ w'.cell? ⟨t.H, 0, none⟩ = some (.int .i64 t.held) ∧ w'.cell? ⟨Np, t.b, none⟩ = some (.int .i32 (np t.b)))
                  (first | with_reducible exact k15c H15.out ((Below.refl _ _).drew) | with_reducible exact k15c H15.out (((Below.refl _ _).alloc (Nat.le_refl _) _).drew) | with_reducible exact k15g H15.out hcl EV.out EV.out EV.out EA.out EA.out EA.out EP.out EP.out EP.out EG.out EG.out EG.out EO.out EH.out EN.out)
                  (first | (refine step_appendQ rfl (.tmp 283) (.tmp 319) 59 Yba.underlying59 rfl w.heap.size _ WL.length (WL.flatMap encQ) ⟨3, topic, t.b, 0, wrap64 (a0 - t.o), wrap64 (a1 - t.a), wrap64 (a2 - t.l), (k : Int) + 1, depth, IntKind.i32.wrap t.held, np t.b, ndv, 2⟩ ⟨wB.heap.size, 0, none⟩ 1 rfl rfl (own_of_block HO.out (fun g hg => (HBB.out.alloc HBB.out.size _).drew.block g (HO.out.lt g hg).2)) (newsQ wB.drew _) HWl.out (Nat.le_trans HB.out.size (HBB.out.alloc HBB.out.size _).drew.size) ?_; intro g cap wD ho hgr hbg hlg; have hcl := app_cells (((Below.refl _ _).alloc (Nat.le_refl _) _).drew) hgr (fun k hk => HO.out.lt k hk); have hbD : Below w.heap.size w wD := (((HB.out.trans (HBB.out.mono HB.out.size)).alloc (Nat.le_trans HB.out.size HBB.out.size) _).drew).grown hgr (Nat.le_trans HB.out.size (HBB.out.alloc HBB.out.size _).drew.size) (fun k hk => (HO.out.lt k hk).1)))
                have HOD : Hid (wD.ownsRow w.heap.size 77 13 (.slice (some ⟨g, 0, none⟩) (WL.length + 1) cap) (WL.length + 1) (WL.flatMap encQ ++ encQ ⟨3, topic, t.b, 0, wrap64 (a0 - t.o), wrap64 (a1 - t.a), wrap64 (a2 - t.l), (k : Int) + 1, depth, IntKind.i32.wrap t.held, np t.b, ndv, 2⟩)) := ho
                have HBD : Hid (Below w.heap.size w wD) := hbD
                clear ho hgr hbg hlg hcl hbD
                go_wp2_with fail
                go_roundw
                case rel => exact ⟨j + 1, HJ.out, by go_num, by rw [HN3.out, HE.out, List.flatMap_append, List.length_append]; show wD.ownsRow _ _ _ _ _ _; simpa using HOD.out, HBD⟩
                case measure => have := HJ.out; simp [intOf]; omega
    · have hje : j = ths.length := by omega
      subst hje
      rw [List.take_of_length_le (Nat.le_refl _)] at HO
      go_wp2_with fail
      exact HK.out _ _ _ ⟨rfl, rfl, ((HF.out 0).trans h0).symm, ((HF.out 1).trans h1).symm, ((HF.out 2).trans h2).symm, ((HF.out 3).trans h3).symm, (HF.out 4).symm, (HF.out 5).symm, (HF.out 6).symm, (HF.out 7).symm, (HF.out 8).symm, ((HF.out 9).trans h9).symm, (HF.out 10).symm, (HF.out 11).symm, (HF.out 12).symm, (HF.out 16).symm, (HF.out 24).symm, (HF.out 25).symm, (HF.out 26).symm, ((HF.out 27).trans h27).symm, (HF.out 30).symm, (HF.out 32).symm, (HF.out 37).symm, ((HF.out 38).trans h38).symm, ((HF.out 39).trans h39).symm, (HF.out 40).symm, (HF.out 41).symm, ((HF.out 43).trans h43).symm, (HF.out 44).symm, (HF.out 45).symm, (HF.out 46).symm, (HF.out 47).symm⟩ rfl HO.out HB.out
end Go.Proofs.Ybulkkru.cst

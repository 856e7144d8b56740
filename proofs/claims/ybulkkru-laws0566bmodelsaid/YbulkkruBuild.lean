import Derived.Test.YbulkkruBuildA
import Derived.Deep.DeepCutAuto
namespace Go.Proofs.Ybulkkru.net
open Go.RowKit
set_option linter.unusedVariables false

set_option maxHeartbeats 4000000 in
set_option maxRecDepth 100000 in
theorem build_any (ao bo : Option Addr) (cap bcap : Nat) (D : List PartD) (E : List BrokD) (um : Bool) (w : World) (hD : PartsIn w ao D) (hE : BroksIn w bo E) (hDl : D.length ≤ 300) (hEl : E.length ≤ 300)
    (hDr : ∀ i, i < D.length → (partOf D i).2.2.length ≤ 300) (hEr : ∀ i, i < E.length → (brokOf E i).2.length ≤ 300) :
    Calls Yba.prog 14 #[.slice ao D.length cap, .slice bo E.length bcap, .bool um] w fun e w' => Built D E um w e w' := by
  obtain ⟨i50, hi50, hz50, hs50, hb50⟩ := info_parts info50
  obtain ⟨i135, hi135, hz135, hs135, hb135⟩ := info_parts info135
  obtain ⟨i32, hi32, hz32, hs32, hb32⟩ := info_parts info32
  obtain ⟨i21, hi21, hz21, hs21, hb21⟩ := info_parts info21
  go_enter Yba.func14, Yba.ntmps14
  go_wp2_with (at_make; refine wpList_make_own _ rfl _ _ 51 rfl w.heap.size 50 i50 _ 19 Yba.underlying51 hi50 hz50 hs50 _ _ _ (D.length + 1) rfl rfl (by omega) ?b2 ?b3 (Nat.le_refl _) ?_)
  case b2 => rw [hb50]; omega
  case b3 => unfold maxLen; omega
  intro w0 hown0 hgrow0
  go_wp2
  go_loopw [7, 8] (fun v i wr => ∃ (k : Nat) (xs : List Value) (rbs : List Nat), k ≤ D.length ∧ i = .int .i64 k ∧ v = .slice (some ⟨w.heap.size, 0, none⟩) k (D.length + 1) ∧ PartsTo w wr w.heap.size k D.length D xs rbs) (fun _ i _ => D.length - (intOf i).toNat)
  case atStart => exact ⟨0, [], [], Nat.zero_le _, rfl, rfl, rfl, hown0, RowsOf.nil _ _, fun i hi => absurd hi (by omega), (Below.refl _ _).grown hgrow0 (Nat.le_refl _) (fun k h => by cases h)⟩
  case round =>
    obtain ⟨k, xs, rbs, hk, rfl, rfl, hP⟩ := hrel
    obtain ⟨wo, rfl⟩ : ∃ wo, wo = wr := ⟨_, rfl⟩
    by_cases hlt : k < D.length
    · obtain ⟨b, off, rfl, hc⟩ := hD (by omega)
      obtain ⟨g0, g1, gt, gs, ro, rcap, g2, hF⟩ := hc k hlt
      have hlen := hDr k hlt
      obtain ⟨t, sh, F, hpk⟩ : ∃ t sh F, partOf D k = (t, sh, F) := ⟨_, _, _, rfl⟩
      rw [hpk] at g0 g1 gt gs g2 hF hlen
      simp only at g0 g1 gt gs g2 hF hlen
      obtain ⟨gt0, gt1⟩ := gt
      obtain ⟨gs0, gs1⟩ := gs
      have HPK : Hid (partOf D k = (t, sh, F)) := hpk
      clear hpk
      have c0 := cell_keeps hP.below g0
      have c1 := cell_keeps hP.below g1
      have c2 := cell_keeps hP.below g2
      have hsz := hP.below.size
      go_wp2_with (at_make; refine wpList_make_full _ rfl _ _ 47 rfl w.heap.size 135 i135 _ 3 Yba.underlying47 hi135 hz135 hs135 _ _ _ _ F.length rfl rfl (by omega) (by omega) ?b2r ?b3r ?b4r ?_)
      case b2r => rw [hb135]; omega
      case b3r => unfold maxLen; omega
      case b4r => simp; omega
      intro w1 hown1 hgrow1
      have hfill1 : Filling w1 w1 (wo.heap.size + 1) F.length 0 (F.map outRack) := Filling.made hown1
      have hs1 : wo.heap.size + 1 ≤ w1.heap.size := by have := hgrow1.size; simpa using this
      have HB1 : Hid (w1.heap[wo.heap.size]? = some (.cells #[.int .u8 t, .int .i8 sh, .slice ro F.length rcap] 95 (0, 0))) := (hgrow1.block _ (by simp) (by simp)).trans (heap_alloc_new _ _)
      have hb1 : Below wo.heap.size wo w1 := ((Below.refl _ _).alloc (Nat.le_refl _) _).grown hgrow1 (by simp) (fun k h => by cases h)
      have hbw1 : Below w.heap.size w w1 := hP.below.trans (hb1.mono hsz)
      have p0 : w1.cell? ⟨wo.heap.size, 2, none⟩ = some (.slice ro F.length rcap) := by simp [World.cell?, HB1.out]
      clear hown1 c0 c1 c2 g0 g1 g2
      go_wp2
      go_loopw [11] (fun j wr => ∃ q : Nat, q ≤ F.length ∧ j = .int .i64 q ∧ Filling w1 wr (wo.heap.size + 1) F.length q (F.map outRack)) (fun j _ => F.length - (intOf j).toNat)
      case atStart => exact ⟨0, Nat.zero_le _, rfl, hfill1⟩
      case round =>
        obtain ⟨q, hq, rfl, hfl⟩ := hrel
        have hbw2 : Below w.heap.size w wr := hbw1.trans (hfl.below.mono (by omega))
        have p2 : wr.cell? ⟨wo.heap.size, 2, none⟩ = some (.slice ro F.length rcap) := (hfl.below.cell (p := ⟨wo.heap.size, 2, none⟩) (by simp)).trans p0
        by_cases hql : q < F.length
        · obtain ⟨fb, fo, rfl, hf⟩ := hF (by omega)
          obtain ⟨f0, f1, ⟨fr0, fr1⟩, ⟨fs0, fs1⟩⟩ := hf q hql
          have e0 := cell_keeps hbw2 f0
          have e1 := cell_keeps hbw2 f1
          obtain ⟨v0, t0⟩ := hfl.there (q * 3) (by omega)
          obtain ⟨v1, t1⟩ := hfl.there (q * 3 + 1) (by omega)
          obtain ⟨v2, t2⟩ := hfl.there (q * 3 + 2) (by omega)
          have z0 := hfl.free (q * 3)
          have z1 := hfl.free (q * 3 + 1)
          have z2 := hfl.free (q * 3 + 2)
          have HM : Hid ((F.map outRack).getD q (0, 0) = outRack (F.getD q (0, 0))) := show _ = _ by simp [List.getD, hql]
          generalize F.getD q (0, 0) = x at e0 e1 fr0 fr1 fs0 fs1 HM
          have a0 : (0 : Int) ≤ (q : Int) := by omega
          have a1 : (q : Int) < (F.length : Int) := by omega
          have hfb : fb < wo.heap.size := Nat.lt_of_lt_of_le (World.block_lt_of_cell? _ _ f0) hsz
          clear f0 f1 hf
          go_wp2_with fail
          go_region_held3 (fun w' => w'.cell? ⟨wo.heap.size, 2, none⟩ = some (.slice (some ⟨fb, fo, none⟩) F.length rcap) ∧ w'.cell? ⟨fb, fo + q * 2, none⟩ = some (.int .u8 x.1) ∧ w'.cell? ⟨fb, fo + q * 2 + 1, none⟩ = some (.int .i8 x.2))
            (first | with_reducible exact startF p2 e0 e1 | with_reducible exact keepF (by simp) (by simp; omega) (by simp; omega) p2 e0 e1)
            (fail)
          have hst := (hfl.step hql (r := x.1 % 3) (s := x.2) (by rw [HM.out, outRack])).drew
          clear p2 e0 e1 t0 t1 t2 z0 z1 z2
          go_wp2
          go_roundw
          case rel => exact ⟨q + 1, by omega, by go_num, hst⟩
          case measure => simp [intOf]; omega
        · have eq : q = F.length := by omega
          have p3 : wr.cell? ⟨wo.heap.size, 0, none⟩ = some (.int .u8 t) := (hfl.below.cell (p := ⟨wo.heap.size, 0, none⟩) (by simp)).trans (by simp [World.cell?, HB1.out])
          have p4 : wr.cell? ⟨wo.heap.size, 1, none⟩ = some (.int .i8 sh) := (hfl.below.cell (p := ⟨wo.heap.size, 1, none⟩) (by simp)).trans (by simp [World.cell?, HB1.out])
          have hfl' : Filling w1 wr (wo.heap.size + 1) F.length F.length (F.map outRack) := by rw [← eq]; rw [← eq] at hfl; exact hfl
          have hownr := hP.ownLater hgrow1 hfl.below (by omega)
          clear eq hfl
          go_wp2_with (at_builtin; refine wpList_append_fits _ rfl (.tmp 62) (.tmp 72) 51 rfl w.heap.size 50 i50 19 Yba.underlying51 hi50 hs50 w.heap.size k (D.length + 1) xs rfl (hownr.alloc _) ⟨wr.heap.size, 0, none⟩ 1 1 (partCells (outPart (partOf D k)) (wo.heap.size + 1)) rfl rfl (news_cells (by rw [HPK.out]; simp [partCells, outPart])) (part_one _ _) (by omega) ?_; intro w3 hown3 hgrow3)
          have hst := hP.step HPK.out hgrow1 hfl' hown3 hgrow3
          clear hown3 hgrow3 p3 p4 p2 hownr
          go_wp2
          go_roundw
          case rel => exact ⟨k + 1, _, _, by omega, by go_num, rfl, hst⟩
          case measure => simp [intOf]; omega
    · obtain rfl : k = D.length := by omega
      have hdone := hP.done
      go_upto_if 76 with (fail)
      go_cut [7] (fun v wq => v = .slice (some ⟨w.heap.size, 0, none⟩) (outParts D).length (D.length + 1) ∧ PartsDone wq w.heap.size (outParts D) ∧ Below w.heap.size w wq)
      case first =>
        by_cases h0 : D.length = 0
        · have H0 : Hid (D.length = 0) := h0
          have h0' : ((D.length : Int) == 0) = true := beq_iff_eq.2 (by omega)
          clear h0
          go_wp2_with (at_builtin; go_loud (refine wpList_append_fits _ rfl (.tmp 77) (.tmp 81) 51 rfl w.heap.size 50 i50 19 Yba.underlying51 hi50 hs50 w.heap.size D.length (D.length + 1) xs rfl ((hP.own.alloc _).alloc _) ⟨wo.heap.size + 1, 0, none⟩ 1 1 (partCells (0, 0, [(0, 1)]) wo.heap.size) rfl rfl (news_cells2 rfl) (part_one _ _) (by omega) ?_); intro w3 hown3 hgrow3)
          have R := partsDone_nil H0.out hP hown3 hgrow3
          clear hown3 hgrow3
          go_wp2
          go_meet
          case rel => exact ⟨by rw [outParts_nil H0.out, H0.out]; rfl, R.1, R.2⟩
        · have h0' : ((D.length : Int) == 0) = false := beq_eq_false_iff_ne.2 (by omega)
          go_wp2
          go_meet
          case rel => exact ⟨by rw [outParts_cons (by omega)]; simp, by rw [outParts_cons (by omega)]; exact hdone, hP.below⟩
      case rest =>
        obtain ⟨rfl, hdoneP, hbelP⟩ := hcut
        have hnp := outParts_len D
        obtain ⟨np, hnpe⟩ : ∃ np, np = (outParts D).length := ⟨_, rfl⟩
        rw [← hnpe] at hnp
        have HNP : Hid (np = (outParts D).length) := hnpe
        rw [← hnpe]
        clear hnpe hP hdone hown0 hgrow0
        have hnp1 := hnp.1
        have hnp2 := hnp.2
        clear hnp
        obtain ⟨wq, rfl⟩ : ∃ wq, wq = wc := ⟨_, rfl⟩
        have hsq := hbelP.size
        go_wp2_with (at_make; refine wpList_make_own _ rfl _ _ 26 rfl wq.heap.size 32 i32 _ 13 Yba.underlying26 hi32 hz32 hs32 _ _ _ (E.length + 1) rfl rfl (by omega) ?b2 ?b3 (Nat.le_refl _) ?_)
        case b2 => rw [hb32]; omega
        case b3 => unfold maxLen; omega
        intro w0' hown0 hgrow0
        go_wp2
        go_loopw [12, 13] (fun v i wr => ∃ (k : Nat) (ys : List Value) (pbs : List Nat), k ≤ E.length ∧ i = .int .i64 k ∧ v = .slice (some ⟨wq.heap.size, 0, none⟩) k (E.length + 1) ∧ BroksTo wq wr wq.heap.size k E.length np E ys pbs) (fun _ i _ => E.length - (intOf i).toNat)
        case atStart => exact ⟨0, [], [], Nat.zero_le _, rfl, rfl, rfl, hown0, RowsOf.nil _ _, fun i hi => absurd hi (by omega), (Below.refl _ _).grown hgrow0 (Nat.le_refl _) (fun k h => by cases h)⟩
        case round =>
          obtain ⟨k, ys, pbs, hk, rfl, rfl, hB⟩ := hrel
          obtain ⟨wo, rfl⟩ : ∃ wo, wo = wr := ⟨_, rfl⟩
          have hbwo : Below w.heap.size w wo := hbelP.trans (hB.below.mono hsq)
          have hsz := hB.below.size
          by_cases hlt : k < E.length
          · obtain ⟨b, off, rfl, hc⟩ := hE (by omega)
            obtain ⟨g0, gt, ro, rcap, g1, hF⟩ := hc k hlt
            have hlen := hEr k hlt
            obtain ⟨t, L, hpk⟩ : ∃ t L, brokOf E k = (t, L) := ⟨_, _, rfl⟩
            rw [hpk] at g0 gt g1 hF hlen
            simp only at g0 gt g1 hF hlen
            obtain ⟨gt0, gt1⟩ := gt
            have HPK : Hid (brokOf E k = (t, L)) := hpk
            clear hpk
            have c0 := cell_keeps hbwo g0
            have c1 := cell_keeps hbwo g1
            go_wp2_with (at_make; refine wpList_make_full _ rfl _ _ 22 rfl wq.heap.size 21 i21 _ 1 Yba.underlying22 hi21 hz21 hs21 _ _ _ _ L.length rfl rfl (by omega) (by omega) ?b2r ?b3r ?b4r ?_)
            case b2r => rw [hb21]; omega
            case b3r => unfold maxLen; omega
            case b4r => simp; omega
            intro w1 hown1 hgrow1
            have hfill1 : Filling1 w1 w1 (wo.heap.size + 1) L.length 0 (L.map fun x => x % (np : Int)) := Filling1.made hown1
            have hs1 : wo.heap.size + 1 ≤ w1.heap.size := by have := hgrow1.size; simpa using this
            have HB1 : Hid (w1.heap[wo.heap.size]? = some (.cells #[.int .u8 t, .slice ro L.length rcap] 97 (0, 0))) := (hgrow1.block _ (by simp) (by simp)).trans (heap_alloc_new _ _)
            have hb1 : Below wo.heap.size wo w1 := ((Below.refl _ _).alloc (Nat.le_refl _) _).grown hgrow1 (by simp) (fun k h => by cases h)
            have hbw1 : Below w.heap.size w w1 := hbwo.trans (hb1.mono hbwo.size)
            have p0 : w1.cell? ⟨wo.heap.size, 1, none⟩ = some (.slice ro L.length rcap) := by simp [World.cell?, HB1.out]
            clear hown1 c0 c1 g0 g1
            go_wp2
            go_loopw [16] (fun j wr => ∃ q : Nat, q ≤ L.length ∧ j = .int .i64 q ∧ Filling1 w1 wr (wo.heap.size + 1) L.length q (L.map fun x => x % (np : Int))) (fun j _ => L.length - (intOf j).toNat)
            case atStart => exact ⟨0, Nat.zero_le _, rfl, hfill1⟩
            case round =>
              obtain ⟨q, hq, rfl, hfl⟩ := hrel
              have hbw2 : Below w.heap.size w wr := hbw1.trans (hfl.below.mono (by have := hbwo.size; omega))
              have p2 : wr.cell? ⟨wo.heap.size, 1, none⟩ = some (.slice ro L.length rcap) := (hfl.below.cell (p := ⟨wo.heap.size, 1, none⟩) (by simp)).trans p0
              by_cases hql : q < L.length
              · obtain ⟨fb, fo, rfl, hf⟩ := hF (by omega)
                obtain ⟨f0, fr0, fr1⟩ := hf q hql
                have e0 := cell_keeps hbw2 f0
                obtain ⟨v0, t0⟩ := hfl.there q hql
                have z0 := hfl.free q
                have HM : Hid ((L.map fun x => x % (np : Int)).getD q 0 = L.getD q 0 % (np : Int)) := show _ = _ by simp [List.getD, hql]
                generalize L.getD q 0 = x at e0 fr0 fr1 HM
                have a0 : (0 : Int) ≤ (q : Int) := by omega
                have a1 : (q : Int) < (L.length : Int) := by omega
                have hxm := emod_np fr0 fr1 hnp1
                have hxm0 := hxm.1
                have hxm1 := hxm.2
                clear f0 hf hxm
                have hst := hfl.step hql (r := x % (np : Int)) HM.out
                go_wp2
                go_roundw
                case rel => exact ⟨q + 1, by omega, by go_num, hst⟩
                case measure => simp [intOf]; omega
              · have eq : q = L.length := by omega
                have p3 : wr.cell? ⟨wo.heap.size, 0, none⟩ = some (.int .u8 t) := (hfl.below.cell (p := ⟨wo.heap.size, 0, none⟩) (by simp)).trans (by simp [World.cell?, HB1.out])
                have hfl' : Filling1 w1 wr (wo.heap.size + 1) L.length L.length (L.map fun x => x % (np : Int)) := by rw [eq] at hfl; exact hfl
                have hownr := hB.ownLater hgrow1 hfl.below (by omega)
                clear eq hfl
                go_wp2_with (at_builtin; refine wpList_append_fits _ rfl (.tmp 121) (.tmp 128) 26 rfl wq.heap.size 32 i32 13 Yba.underlying26 hi32 hs32 wq.heap.size k (E.length + 1) ys rfl (hownr.alloc _) ⟨wr.heap.size, 0, none⟩ 1 1 (brokCells (outBrok np (brokOf E k)) (wo.heap.size + 1)) rfl rfl (news_cells (by rw [HPK.out]; simp [brokCells, outBrok])) (brok_one _ _) (by omega) ?_; intro w3 hown3 hgrow3)
                have hst := hB.step HPK.out hgrow1 hfl' hown3 hgrow3
                clear hown3 hgrow3 p3 p2 hownr
                go_wp2
                go_roundw
                case rel => exact ⟨k + 1, _, _, by omega, by go_num, rfl, hst⟩
                case measure => simp [intOf]; omega
          · obtain rfl : k = E.length := by omega
            have hdone := hB.done
            go_upto_if 132 with (fail)
            go_cut [12] (fun v wz => v = .slice (some ⟨wq.heap.size, 0, none⟩) (outBroks np E).length (E.length + 1) ∧ BroksDone wz wq.heap.size (outBroks np E) ∧ Below wq.heap.size wq wz)
            case first =>
              by_cases h0 : E.length = 0
              · have H0 : Hid (E.length = 0) := h0
                have h0' : ((E.length : Int) == 0) = true := beq_iff_eq.2 (by omega)
                clear h0
                go_wp2_with (at_builtin; refine wpList_append_fits _ rfl (.tmp 133) (.tmp 136) 26 rfl wq.heap.size 32 i32 13 Yba.underlying26 hi32 hs32 wq.heap.size E.length (E.length + 1) ys rfl ((hB.own.alloc _).alloc _) ⟨wo.heap.size + 1, 0, none⟩ 1 1 (brokCells (0, [0]) wo.heap.size) rfl rfl (news_cells2 rfl) (brok_one _ _) (by omega) ?_; intro w3 hown3 hgrow3)
                have R := broksDone_nil H0.out hB hown3 hgrow3
                clear hown3 hgrow3
                go_wp2
                go_meet
                case rel => exact ⟨by rw [outBroks_nil H0.out, H0.out]; rfl, R.1, R.2⟩
              · have h0' : ((E.length : Int) == 0) = false := beq_eq_false_iff_ne.2 (by omega)
                go_wp2
                go_meet
                case rel => exact ⟨by rw [outBroks_cons (by omega)]; simp, by rw [outBroks_cons (by omega)]; exact hdone, hB.below⟩
            case rest =>
              obtain ⟨rfl, hdoneB, hbelB⟩ := hcut
              have hbelC : Below w.heap.size w wc := hbelP.trans (hbelB.mono hsq)
              have hP' := hdoneP.keeps hbelB
              clear hB hdone hown0 hgrow0 hdoneP
              cases um with
              | true =>
                go_wp2
                go_ret
                exact built_done hE hDl hEl hDr hEr HNP.out hP' hdoneB hbelC rfl rfl rfl
              | false =>
                go_wp2
                go_ret
                exact built_done hE hDl hEl hDr hEr HNP.out hP' hdoneB hbelC rfl rfl rfl

end Go.Proofs.Ybulkkru.net

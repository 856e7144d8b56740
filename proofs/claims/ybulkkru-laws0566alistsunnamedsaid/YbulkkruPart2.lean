import Derived.Test.YbulkkruPart1
import Derived.Test.YbulkkruMap
namespace Go.Proofs.Ybulkkru.cst
open Go.RowKit Go.Proofs Go.Proofs.Ybulkkru.net
set_option linter.unusedVariables false

noncomputable def Bk2 : Code := (Yba.f3.body.bind (findBlock 18)).getD .skip

structure Same30 (a a' : Act) : Prop where
  sz : a'.tmps.size = 474
  df : a'.defers = []
  s0 : a'.tmps.getD 0 undef = a.tmps.getD 0 undef
  s1 : a'.tmps.getD 1 undef = a.tmps.getD 1 undef
  s2 : a'.tmps.getD 2 undef = a.tmps.getD 2 undef
  s3 : a'.tmps.getD 3 undef = a.tmps.getD 3 undef
  s4 : a'.tmps.getD 4 undef = a.tmps.getD 4 undef
  s5 : a'.tmps.getD 5 undef = a.tmps.getD 5 undef
  s6 : a'.tmps.getD 6 undef = a.tmps.getD 6 undef
  s7 : a'.tmps.getD 7 undef = a.tmps.getD 7 undef
  s8 : a'.tmps.getD 8 undef = a.tmps.getD 8 undef
  s9 : a'.tmps.getD 9 undef = a.tmps.getD 9 undef
  s10 : a'.tmps.getD 10 undef = a.tmps.getD 10 undef
  s11 : a'.tmps.getD 11 undef = a.tmps.getD 11 undef
  s12 : a'.tmps.getD 12 undef = a.tmps.getD 12 undef
  s16 : a'.tmps.getD 16 undef = a.tmps.getD 16 undef
  s24 : a'.tmps.getD 24 undef = a.tmps.getD 24 undef
  s25 : a'.tmps.getD 25 undef = a.tmps.getD 25 undef
  s26 : a'.tmps.getD 26 undef = a.tmps.getD 26 undef
  s27 : a'.tmps.getD 27 undef = a.tmps.getD 27 undef
  s30 : a'.tmps.getD 30 undef = a.tmps.getD 30 undef

theorem info44 : (Yba.prog.info? 44).map (fun i => (i.zero, i.size, i.bytes)) = some (some (.agg #[.int .i32 0, .pointer none]), 2, 16) := by kernel_rfl

/-- The row of holdings that came in: only that it can be read. -/
def RowH (w : World) (ho : Option Addr) (n : Nat) : Prop :=
  n ≠ 0 → ∃ b o, ho = some ⟨b, o, none⟩ ∧ ∀ i, i < n → ∃ (x : Nat) (h c d e : Int), x ≤ 255 ∧ w.cell? ⟨b, o + i * 5, none⟩ = some (.int .u8 x) ∧ w.cell? ⟨b, o + i * 5 + 1, none⟩ = some (.int .i64 h) ∧ w.cell? ⟨b, o + i * 5 + 2, none⟩ = some (.int .i64 c) ∧ w.cell? ⟨b, o + i * 5 + 3, none⟩ = some (.int .i64 d) ∧ w.cell? ⟨b, o + i * 5 + 4, none⟩ = some (.int .i64 e)

def encT (t : Th) : List Value := [.int .i32 t.b, .pointer (some ⟨t.H, 0, none⟩)]
def seenB (ths : List Th) (b : Nat) : Bool := ths.any fun t => t.b == b

theorem wpList_mapUpd {ops : Array Oper} {rest : List Oper} {o : Oper} {a : Act} {w : World} {Q' : Exit → Act → World → Prop} (hg : o.guard = none) (m x v : Operand) (hop : o.op = Op.mapUpdate 33 m x v) {mb H : Nat} {topic b : Int} {hs : List (Int × Nat)} (h : MapAt w mb topic hs)
    (hm : a.eval m = .map (some mb)) (hx : a.eval x = hkey topic b) (hv : a.eval v = .pointer (some ⟨H, 0, none⟩)) (ht : Is32 topic) (hr : ∀ p ∈ hs, Is32 p.1) (hb32 : Is32 b) (hn : ∀ p ∈ hs, p.1 ≠ b)
    (hK : ∀ w', MapAt w' mb topic (hs ++ [(b, H)]) → w.grownBy w' (some mb) → w'.heap.size = w.heap.size → wpList Yba.prog ops Q' rest (a.put o.dst undef) w') : wpList Yba.prog ops Q' (o :: rest) a w := by
  refine wpList_plain hg fun K' hK' => ?_
  obtain ⟨w', hrun, r1, r2, r3⟩ := h.update ht hr hb32 hn H
  unfold Oper.wp
  simp [execOp, hop, hm, hx, hv, hrun, Result.andThen]
  exact hK' _ _ (hK w' r1 r2 r3)

/-- The tracked holdings as far as they are built. -/
structure ThB (w0 w : World) (mb Sn nB : Nat) (topic : Int) (tv : Value) (ths : List Th) : Prop where
  seen : ∀ b, b < 8 → w.cell? ⟨Sn, b, none⟩ = some (.bool (seenB ths b))
  sfree : ∀ x, w.frozen? ⟨Sn, x, none⟩ = false
  mp : MapAt w mb topic (ths.map fun t => ((t.b : Int), t.H))
  row : w.ownsRow w0.heap.size 44 2 tv ths.length (ths.flatMap encT)
  hold : ∀ t ∈ ths, HoldAt w t.H t.held t.o t.a t.l ∧ w0.heap.size ≤ t.H
  dist : ∀ t ∈ ths, ∀ u ∈ ths, t.b = u.b → t = u
  bnd : ∀ t ∈ ths, t.b < nB
  kept : Kept w0 w [mb, Sn]
  hmb : mb < w0.heap.size
  hSn : Sn < w0.heap.size
  hne : mb ≠ Sn

theorem own_of_block {w w' : World} {B e sz n : Nat} {v : Value} {xs : List Value} (h : w.ownsRow B e sz v n xs) (hb : ∀ g, v.ownBlock = some g → w'.heap[g]? = w.heap[g]?) : w'.ownsRow B e sz v n xs := by
  obtain ⟨h1, h2 | ⟨g, cap, cur, e1, h3, hg, h5⟩⟩ := h
  · exact ⟨h1, Or.inl h2⟩
  · subst e1
    exact ⟨h1, Or.inr ⟨g, cap, cur, rfl, h3, (hb g rfl).trans hg, h5⟩⟩

theorem HoldAt.of_block {w w' : World} {H : Nat} {held o a l : Int} (h : HoldAt w H held o a l) (hb : w'.heap[H]? = w.heap[H]?) : HoldAt w' H held o a l := by
  have c : ∀ x v, w.cell? ⟨H, x, none⟩ = some v → w'.cell? ⟨H, x, none⟩ = some v := fun x v hv => (World.cell?_of_block (a := ⟨H, x, none⟩) hb).trans hv
  exact ⟨c _ _ h.c0, c _ _ h.c1, c _ _ h.c2, c _ _ h.c3, c _ _ h.c4, c _ _ h.c5⟩
theorem HoldAt.lt {w : World} {H : Nat} {held o a l : Int} (h : HoldAt w H held o a l) : H < w.heap.size := World.block_lt_of_cell? _ _ h.c0

theorem ThB.keep {w0 w w' : World} {mb Sn nB : Nat} {topic : Int} {tv : Value} {ths : List Th} (h : ThB w0 w mb Sn nB topic tv ths) (hb : Below w.heap.size w w') : ThB w0 w' mb Sn nB topic tv ths where
  seen b hb8 := cell_keeps hb (h.seen b hb8)
  sfree x := by
    have hlt : Sn < w.heap.size := World.block_lt_of_cell? _ _ (h.seen 0 (by omega))
    exact (World.frozen?_of_block (a := ⟨Sn, x, none⟩) (hb.block Sn hlt)).trans (h.sfree x)
  mp := h.mp.keep hb
  row := own_of_block h.row (fun g hg => hb.block g (h.row.lt g hg).2)
  hold t ht := ⟨(h.hold t ht).1.keep hb, (h.hold t ht).2⟩
  dist := h.dist
  bnd := h.bnd
  kept := h.kept.below' hb
  hmb := h.hmb
  hSn := h.hSn
  hne := h.hne

theorem seen_snoc (ths : List Th) (t : Th) (b : Nat) : seenB (ths ++ [t]) b = (seenB ths b || (t.b == b)) := by simp [seenB]
theorem not_seen {ths : List Th} {b : Nat} (h : seenB ths b = false) : ∀ t ∈ ths, t.b ≠ b := by
  intro t ht e
  have : seenB ths b = true := List.any_eq_true.2 ⟨t, ht, by simp [e]⟩
  rw [h] at this
  cases this

theorem news_cells' {w : World} {arr : Array Value} {t : TypeId} {news : List Value} (h : arr.toList = news) : ∀ j u, news[j]? = some u → (w.alloc (.cells arr t)).cell? ((⟨w.heap.size, 0, none⟩ : Addr).add j) = some u := by
  intro j u hj
  subst h
  rw [WideShapes.add_plain, Nat.zero_add, World.cell?_alloc_at _ _ _ _ rfl]
  simpa using hj
theorem bl_alloc' {w w' : World} {o : Obj} (h : Below w.heap.size w w') : Below w.heap.size w (w'.alloc o) := h.alloc h.size _
/-- One holding more. -/
theorem ThB.step {w0 w w2 w3 : World} {mb Sn nB b g cap : Nat} {topic held o a l : Int} {tv : Value} {ths : List Th} (h : ThB w0 w mb Sn nB topic tv ths) (hb8 : b < 8) (hbn : b < nB) (hns : seenB ths b = false)
    (hm : MapAt w2 mb topic ((ths.map fun t => ((t.b : Int), t.H)) ++ [((b : Int), w.heap.size)])) (hg2 : ((w.setCell ⟨Sn, b, none⟩ (.bool true)).alloc (.cells #[.int .i64 held, .int .i64 0, .int .i64 0, .int .i64 o, .int .i64 a, .int .i64 l] 40)).grownBy w2 (some mb)) (news : Obj)
    (ho : w3.ownsRow w0.heap.size 44 2 (.slice (some ⟨g, 0, none⟩) (ths.length + 1) cap) (ths.length + 1) (ths.flatMap encT ++ [.int .i32 b, .pointer (some ⟨w.heap.size, 0, none⟩)])) (hg3 : (w2.alloc news).grownBy w3 tv.ownBlock) :
    ThB w0 w3 mb Sn nB topic (.slice (some ⟨g, 0, none⟩) (ths.length + 1) cap) (ths ++ [⟨b, w.heap.size, held, o, a, l⟩]) := by
  have hSlt : Sn < w.heap.size := World.block_lt_of_cell? _ _ (h.seen 0 (by omega))
  have hmlt : mb < w.heap.size := h.mp.lt
  have hsz : w0.heap.size ≤ w.heap.size := h.kept.size
  have hrow : ∀ k, tv.ownBlock = some k → w0.heap.size ≤ k ∧ k < w.heap.size := h.row.lt
  -- blocks on the way
  have z1 : (w.setCell ⟨Sn, b, none⟩ (.bool true)).heap.size = w.heap.size := by simp
  have s2 : w.heap.size + 1 ≤ w2.heap.size := by have := hg2.size; simpa using this
  have blk : ∀ k, k < w.heap.size → k ≠ Sn → k ≠ mb → some k ≠ tv.ownBlock → w3.heap[k]? = w.heap[k]? := fun k hk h1 h2 h3 => by
    rw [hg3.block k (by simp; omega) h3, Below.heap_alloc _ _ _ (by omega), hg2.block k (by simp; omega) (by simpa using h2), Below.heap_alloc _ _ _ (by rw [z1]; exact hk), setcell_other _ h1]
  have blkS : w3.heap[Sn]? = (w.setCell ⟨Sn, b, none⟩ (.bool true)).heap[Sn]? := by
    rw [hg3.block Sn (by simp; omega) (fun e => by have := hrow Sn e.symm; have := h.hSn; omega), Below.heap_alloc _ _ _ (by omega), hg2.block Sn (by simp; omega) (fun e => h.hne (by injection e with e; exact e.symm)), Below.heap_alloc _ _ _ (by rw [z1]; exact hSlt)]
  have blkM : w3.heap[mb]? = w2.heap[mb]? := by
    rw [hg3.block mb (by simp; omega) (fun e => by have := hrow mb e.symm; have := h.hmb; omega), Below.heap_alloc _ _ _ (by omega)]
  have blkH : w3.heap[w.heap.size]? = some (.cells #[.int .i64 held, .int .i64 0, .int .i64 0, .int .i64 o, .int .i64 a, .int .i64 l] 40 (0, 0)) := by
    rw [hg3.block w.heap.size (by simp; omega) (fun e => by have := hrow _ e.symm; omega), Below.heap_alloc _ _ _ (by omega), hg2.block w.heap.size (by simp) (by simp; omega)]
    have := heap_alloc_new (w.setCell ⟨Sn, b, none⟩ (.bool true)) (.cells #[.int .i64 held, .int .i64 0, .int .i64 0, .int .i64 o, .int .i64 a, .int .i64 l] 40)
    rw [z1] at this
    exact this
  refine ⟨?_, ?_, ?_, ?_, ?_, ?_, ?_, ?_, h.hmb, h.hSn, h.hne⟩
  · intro c hc
    rw [seen_snoc, World.cell?_of_block (a := ⟨Sn, c, none⟩) blkS]
    by_cases e : b = c
    · subst e
      rw [World.cell?_setCell_same _ _ _ (by rw [h.seen b hb8])]
      simp
    · rw [cell_set_ne e, h.seen c hc]
      simp [e]
  · intro x
    rw [World.frozen?_of_block (a := ⟨Sn, x, none⟩) blkS, World.frozen?_setCell]
    exact h.sfree x
  · rw [List.map_append]
    exact hm.of_block blkM
  · rw [List.flatMap_append, List.length_append]
    exact ho
  · intro t ht
    rcases List.mem_append.1 ht with h1 | h1
    · obtain ⟨hh, hl⟩ := h.hold t h1
      refine ⟨?_, hl⟩
      by_cases e : some t.H = tv.ownBlock
      · -- the holding's block is no row of holdings
        exfalso
        obtain ⟨_, h2 | ⟨g', cap', cur, e1, h3, hg, _, _, h6, h7⟩⟩ := h.row
        · obtain ⟨h2, _⟩ := h2
          subst h2
          cases e
        · subst e1
          injection e with e
          have hc := h.row.cellAt 0 (by have := List.length_pos_of_mem h1; omega)
          have hx : ∃ x l, ths = x :: l := by
            cases ths with
            | nil => cases h1
            | cons x l => exact ⟨x, l, rfl⟩
          obtain ⟨x, l', hx⟩ := hx
          rw [hx] at hc
          have h0 := hh.c0
          rw [show t.H = g' from e, hc] at h0
          simp [encT] at h0
      · have hne1 : t.H ≠ Sn := by have := h.hSn; omega
        have hne2 : t.H ≠ mb := by have := h.hmb; omega
        exact hh.of_block (blk _ hh.lt hne1 hne2 e)
    · simp only [List.mem_singleton] at h1
      subst h1
      exact ⟨⟨cellAt blkH rfl, cellAt blkH rfl, cellAt blkH rfl, cellAt blkH rfl, cellAt blkH rfl, cellAt blkH rfl⟩, hsz⟩
  · intro t ht u hu e
    rcases List.mem_append.1 ht with h1 | h1 <;> rcases List.mem_append.1 hu with h2 | h2
    · exact h.dist t h1 u h2 e
    · simp only [List.mem_singleton] at h2; subst h2; exact absurd e (not_seen hns t h1)
    · simp only [List.mem_singleton] at h1; subst h1; exact absurd e.symm (not_seen hns u h2)
    · simp only [List.mem_singleton] at h1 h2; rw [h1, h2]
  · intro t ht
    rcases List.mem_append.1 ht with h1 | h1
    · exact h.bnd t h1
    · simp only [List.mem_singleton] at h1; subst h1; exact hbn
  · have k1 : Kept w0 (w.setCell ⟨Sn, b, none⟩ (.bool true)) [mb, Sn] := h.kept.setCell (Or.inl (by simp)) _
    have k2 := k1.below' (bl_alloc' (o := .cells #[.int .i64 held, .int .i64 0, .int .i64 0, .int .i64 o, .int .i64 a, .int .i64 l] 40) (Below.refl _ _))
    have k3 := k2.grown hg2 (fun q hq => Or.inl (by injection hq with hq; simp [hq]))
    have k4 := k3.below' (bl_alloc' (o := news) (Below.refl _ _))
    exact k4.grown hg3 (fun q hq => Or.inr (hrow q hq).1)

set_option maxHeartbeats 8000000 in
set_option maxRecDepth 100000 in
theorem part2 (nB mb Sn n hcap : Nat) (ho : Option Addr) (topic : Int) (w0 w : World) (a : Act) (K : Act → World → Prop) (Q' : Exit → Act → World → Prop) (hsz : a.tmps.size = 474) (hd : a.defers = []) (h0 : a.tmps.getD 0 undef = .int .i32 topic) (h25 : a.tmps.getD 25 undef = .int .i64 nB)
    (h30 : a.tmps.getD 30 undef = .map (some mb)) (h31 : a.tmps.getD 31 undef = .pointer (some ⟨Sn, 0, none⟩)) (h32 : a.tmps.getD 32 undef = .slice none 0 0) (h118 : a.tmps.getD 118 undef = .slice ho n hcap) (h119 : a.tmps.getD 119 undef = .int .i64 n) (h120 : a.tmps.getD 120 undef = .int .i64 0)
    (hnB : nB ≤ 8) (hnB0 : 0 < nB) (hn : n ≤ 1024) (t32 : Is32 topic) (hB : ThB w0 w mb Sn nB topic (.slice none 0 0) []) (hrow : ∀ w', Kept w0 w' [mb, Sn] → RowH w' ho n)
    (hK : ∀ a' w' tv ths, Same30 a a' → a'.tmps.getD 32 undef = tv → ths.length ≤ n → ThB w0 w' mb Sn nB topic tv ths → K a' w') : Code.wp Yba.prog Bk2 (Exit.then K Q') a w := by
  obtain ⟨i44, hi44, hz44, hs44, hb44⟩ := info_parts info44
  obtain ⟨t, df⟩ := a
  simp only at hsz hd h0 h25 h30 h31 h32 h118 h119 h120
  subst hd
  obtain ⟨f, hf, rfl⟩ := lit474 t hsz
  rw [hf] at h0 h25 h30 h31 h32 h118 h119 h120
  have HK : Hid _ := hK
  have HB : Hid _ := hB
  have HRo : Hid _ := hrow
  have HF : Hid _ := hf
  clear hK hB hrow hf hsz
  rw [h0, h25, h30, h31, h32, h118, h119, h120]
  conv => arg 2; whnf
  go_wp2_with fail
  go_loopw [32, 120] (fun tv v wr => ∃ (j : Nat) (ths : List Th), j ≤ n ∧ v = .int .i64 j ∧ ths.length ≤ j ∧ Hid (ThB w0 wr mb Sn nB topic tv ths)) (fun _ v _ => n - (intOf v).toNat)
  case atStart => exact ⟨0, [], Nat.zero_le _, rfl, Nat.le_refl _, HB⟩
  case round =>
    obtain ⟨j, ths, hj, rfl, htl, HJ⟩ := hrel
    clear HB
    by_cases hlt : j < n
    · have a0 : (0 : Int) ≤ (j : Int) := by omega
      have a1 : (j : Int) < (n : Int) := by omega
      obtain ⟨hb, hof, rfl, hc⟩ := HRo.out wr HJ.out.kept (by omega)
      obtain ⟨x, hh, cc, dd, ee, hx, c0, c1, c2, c3, c4⟩ := hc j hlt
      obtain ⟨b, hbx⟩ : ∃ b : Nat, x % nB = b := ⟨_, rfl⟩
      have hbn : b < nB := by rw [← hbx]; exact Nat.mod_lt _ hnB0
      have hbI : (x : Int) % (nB : Int) = (b : Int) := by rw [← hbx]; simp
      have hbI2 : (x : Int).tmod (nB : Int) = (b : Int) := by rw [Int.tmod_eq_emod_of_nonneg (by omega)]; exact hbI
      have b0 : (0 : Int) ≤ (b : Int) := by omega
      have b1 : (b : Int) < 8 := by omega
      have w32 : IntKind.i32.wrap (b : Int) = b := by rw [IntKind.wrap_i32]; omega
      have hlen : j + 1 ≤ n := hlt
      have HLT : Hid (j + 1 ≤ n) := hlt
      clear hc
      go_upto_region 20 with (fail)
      have hbA : Below wr.heap.size wr (wr.alloc (.cells #[.int .u8 x, .int .i64 hh, .int .i64 cc, .int .i64 dd, .int .i64 ee] 37)) := (Below.refl _ _).alloc (Nat.le_refl _) _
      have hqA : (wr.alloc (.cells #[.int .u8 x, .int .i64 hh, .int .i64 cc, .int .i64 dd, .int .i64 ee] 37)).heap[wr.heap.size]? = some (.cells #[.int .u8 x, .int .i64 hh, .int .i64 cc, .int .i64 dd, .int .i64 ee] 37 (0, 0)) := heap_alloc_new _ _
      generalize wr.alloc (.cells #[.int .u8 x, .int .i64 hh, .int .i64 cc, .int .i64 dd, .int .i64 ee] 37) = wA at hbA hqA ⊢
      have HA : Hid (ThB w0 wA mb Sn nB topic u32 ths) := HJ.out.keep hbA
      have q0 : wA.cell? ⟨wr.heap.size, 0, none⟩ = some (.int .u8 x) := cellAt hqA rfl
      have q1 : wA.cell? ⟨wr.heap.size, 1, none⟩ = some (.int .i64 hh) := cellAt hqA rfl
      have q2 : wA.cell? ⟨wr.heap.size, 2, none⟩ = some (.int .i64 cc) := cellAt hqA rfl
      have q3 : wA.cell? ⟨wr.heap.size, 3, none⟩ = some (.int .i64 dd) := cellAt hqA rfl
      have q4 : wA.cell? ⟨wr.heap.size, 4, none⟩ = some (.int .i64 ee) := cellAt hqA rfl
      have HwA : Hid (wr.heap.size < wA.heap.size) := lt_of_block hqA
      have HnS : Hid (wr.heap.size ≠ Sn) := show _ ≠ _ by have h1 := HJ.out.hSn; have h2 := HJ.out.kept.size; omega
      have sb := HA.out.seen b (by omega)
      have sf := HA.out.sfree b
      clear hbA hqA c0 c1 c2 c3 c4 HJ
      cases hsn : seenB ths b with
      | true =>
        rw [hsn] at sb
        go_wp2_with fail
        go_roundw
        case rel => exact ⟨j + 1, ths, HLT.out, by go_num, Nat.le_succ_of_le htl, HA⟩
        case measure => have := HLT.out; simp [intOf]; omega
      | false =>
        rw [hsn] at sb
        have hns := not_seen hsn
        have HNS : Hid (∀ p ∈ (ths.map fun t => ((t.b : Int), t.H)), p.1 ≠ (b : Int)) := fun p hp => by
          obtain ⟨u, hu, rfl⟩ := List.mem_map.1 hp
          have := hns u hu
          show (u.b : Int) ≠ (b : Int)
          omega
        have HR32 : Hid (∀ p ∈ (ths.map fun t => ((t.b : Int), t.H)), Is32 p.1) := fun p hp => by
          obtain ⟨u, hu, rfl⟩ := List.mem_map.1 hp
          have := HA.out.bnd u hu
          exact ⟨by show -2147483648 ≤ (u.b : Int); omega, by show (u.b : Int) ≤ 2147483647; omega⟩
        have Hb32 : Hid (Is32 (b : Int)) := ⟨by omega, by omega⟩
        have HM : Hid (MapAt ((wA.setCell ⟨Sn, b, none⟩ (.bool true)).alloc (.cells #[.int .i64 hh, .int .i64 0, .int .i64 0, .int .i64 cc, .int .i64 dd, .int .i64 ee] 40)) mb topic (ths.map fun t => ((t.b : Int), t.H))) :=
          HA.out.mp.of_block (by rw [Below.heap_alloc _ _ _ (by simpa using HA.out.mp.lt), setcell_other _ HA.out.hne])
        have HSN : Hid (seenB ths b = false) := hsn
        have hnS := HnS.out
        have hnS' := Ne.symm HnS.out
        clear hns hsn
        go_upto_region 25 with (at_mapUpdate; go_loud (refine wpList_mapUpd rfl (.tmp 145) (.tmp 149) (.tmp 150) rfl HM.out rfl rfl rfl t32 HR32.out Hb32.out HNS.out ?_); intro w2 hm2 hg2 hs2)
        have HG2 : Hid _ := hg2
        have HM2 : Hid _ := hm2
        have hs2' : w2.heap.size = wA.heap.size + 1 := by rw [hs2]; simp
        have HOW : Hid (w2.ownsRow w0.heap.size 44 2 u32 ths.length (ths.flatMap encT)) := own_of_block HA.out.row (fun g hg => by
          have h1 := HA.out.row.lt g hg
          have h2 := HA.out.hSn
          have h3 := HA.out.hmb
          rw [hg2.block g (by simp; omega) (fun e => by injection e with e; omega), Below.heap_alloc _ _ _ (by simpa using h1.2), setcell_other _ (by omega)])
        have HB0 : Hid (w0.heap.size ≤ w2.heap.size) := show _ ≤ _ by have := HA.out.kept.size; omega
        have HS2 : Hid (w2.heap.size = wA.heap.size + 1) := hs2'
        clear hg2 hm2 hs2 hs2'
        go_wp2_with (at_builtin; go_loud (refine wpList_append_own _ rfl (.tmp 151) (.tmp 156) 35 rfl w0.heap.size 44 i44 _ 2 16 Yba.underlying35 hi44 hz44 hs44 hb44 rfl (by omega) _ ths.length (ths.flatMap encT) rfl (HOW.out.alloc _) ⟨w2.heap.size, 0, none⟩ 1 1 [.int .i32 b, .pointer (some ⟨wA.heap.size, 0, none⟩)] rfl rfl ?qc ?q1 ?q2 ?q3 ?q4 ?_))
        case qc => exact news_cells' rfl
        case q1 => intro u hu; simp only [List.mem_cons, List.not_mem_nil, or_false] at hu; rcases hu with rfl | rfl <;> rfl
        case q2 => unfold maxLen; omega
        case q3 => omega
        case q4 => exact Nat.le_trans HB0.out (by simp)
        intro v' w3 ho hg3 _
        obtain ⟨g, cap, hv', _⟩ := own_shape ho (by omega)
        subst hv'
        have HT : Hid (ThB w0 w3 mb Sn nB topic (.slice (some ⟨g, 0, none⟩) (ths.length + 1) cap) (ths ++ [⟨b, wA.heap.size, hh, cc, dd, ee⟩])) := HA.out.step (by omega) hbn HSN.out HM2.out HG2.out _ ho hg3
        clear ho hg3 HG2 HM2 HOW HM HR32 HNS
        go_wp2_with fail
        go_roundw
        case rel => exact ⟨j + 1, _, HLT.out, by go_num, by simp; exact htl, HT⟩
        case measure => have := HLT.out; simp [intOf]; omega
    · have hje : j = n := by omega
      subst hje
      have a1 : ¬ (j : Int) < (j : Int) := by omega
      go_wp2_with fail
      exact HK.out _ _ u32 ths ⟨rfl, rfl, ((HF.out 0).trans h0).symm, (HF.out 1).symm, (HF.out 2).symm, (HF.out 3).symm, (HF.out 4).symm, (HF.out 5).symm, (HF.out 6).symm, (HF.out 7).symm, (HF.out 8).symm, (HF.out 9).symm, (HF.out 10).symm, (HF.out 11).symm, (HF.out 12).symm, (HF.out 16).symm, (HF.out 24).symm, ((HF.out 25).trans h25).symm, (HF.out 26).symm, (HF.out 27).symm, ((HF.out 30).trans h30).symm⟩ rfl htl HJ.out
end Go.Proofs.Ybulkkru.cst

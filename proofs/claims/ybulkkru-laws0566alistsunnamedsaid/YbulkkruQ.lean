import Derived.Test.YbulkkruQdef
namespace Go.Proofs.Ybulkkru.cst
open Go.RowKit Go.Proofs.Ybulkkru.net
set_option linter.unusedVariables false

/-! ### A region whatever its order, by a condition on what has come up -/
theorem count_false {listed : Array Bool} {i : Nat} (h : listed.getD i true = false) : (listed.setIfInBounds i true).toList.count false + 1 = listed.toList.count false := by
  have hi : i < listed.size := by
    rcases Nat.lt_or_ge i listed.size with h1 | h1
    · exact h1
    · simp [Array.getElem?_eq_none h1] at h
  have he : listed.toList[i]'(by simpa using hi) = false := by simpa [Array.getD, hi] using h
  rw [Array.toList_setIfInBounds, List.count_set (by simpa using hi), he]
  have : 0 < listed.toList.count false := List.count_pos_iff.2 (by rw [← he]; exact List.getElem_mem _)
  rw [if_pos (by rfl), if_neg (by decide)]
  omega

theorem wpAny_inv {P : Program} {md : Region.Mode} {ops : Array Oper} {Q : Exit → Act → World → Prop} (J : Array Bool → Act → World → Prop)
    (hend : ∀ listed a w, J listed a w → Region.ready md ops listed = [] → Q .normal a w)
    (hsz : ∀ listed a w, J listed a w → listed.size = ops.size)
    (hstep : ∀ listed a w i, J listed a w → i ∈ Region.ready md ops listed → wpOp P ops Q i (fun a' w' => J (listed.setIfInBounds i true) a' w') a w) :
    ∀ (fuel : Nat) (listed : Array Bool) (a : Act) (w : World), J listed a w → listed.toList.count false ≤ fuel → wpAny P md ops Q fuel listed a w
  | 0, listed, a, w, hJ, hc => by
    have hr : Region.ready md ops listed = [] := by
      cases e : Region.ready md ops listed with
      | nil => rfl
      | cons i l =>
        have hi : i ∈ Region.ready md ops listed := by rw [e]; exact List.mem_cons_self
        have := count_false (mem_ready.1 hi).1
        omega
    exact ⟨hr, hend _ _ _ hJ hr⟩
  | fuel + 1, listed, a, w, hJ, hc => by
    refine ⟨fun hr => hend _ _ _ hJ hr, fun i hi => ?_⟩
    have h1 := count_false (mem_ready.1 hi).1
    exact wpOp_mono (fun a' w' hJ' => wpAny_inv J hend hsz hstep fuel _ a' w' hJ' (by omega)) (hstep _ _ _ _ hJ hi)

/-- Every operation waits for earlier ones alone. -/
def lexOk (md : Region.Mode) (ops : Array Oper) : Bool := (List.range ops.size).all fun i => (ops[i]?.map fun o => o.after.all fun e => !Region.binds md e || decide (e.on < i)).getD true

theorem all_listed {md : Region.Mode} {ops : Array Oper} {listed : Array Bool} (hl : lexOk md ops = true) (hs : listed.size = ops.size) (hr : Region.ready md ops listed = []) : ∀ i, i < ops.size → listed.getD i false = true := by
  intro i
  induction i using Nat.strongRecOn with
  | _ i ih =>
    intro hi
    have hi' : i < listed.size := by omega
    cases e : listed.getD i true with
    | true => simpa [Array.getD, hi'] using e
    | false =>
      exfalso
      have : i ∈ Region.ready md ops listed := by
        refine mem_ready.2 ⟨e, ops[i], by simp [hi], fun ed he hb => ?_⟩
        have h1 : (ops[i]?.map fun o => o.after.all fun e => !Region.binds md e || decide (e.on < i)).getD true = true := by
          unfold lexOk at hl
          exact List.all_eq_true.1 hl i (by simpa using hi)
        simp only [hi, getElem?_pos, Option.map_some, Option.getD_some] at h1
        have h2 := Array.all_eq_true_iff_forall_mem.1 h1 ed he
        simp [hb] at h2
        exact ih _ h2 (by omega)
      rw [hr] at this
      cases this

theorem dep_of {md : Region.Mode} {ops : Array Oper} {listed : Array Bool} {i : Nat} (hr : i ∈ Region.ready md ops listed) (j : Nat) {o : Oper} (ho : ops[i]? = some o) (h : (o.after.toList.any fun e => e.on == j && Region.binds md e) = true) : listed.getD j false = true := by
  obtain ⟨_, o', ho', hall⟩ := mem_ready.1 hr
  rw [ho] at ho'
  injection ho' with ho'
  subst ho'
  obtain ⟨e, he, h2⟩ := List.any_eq_true.1 h
  simp only [Bool.and_eq_true, beq_iff_eq] at h2
  have := hall e (Array.mem_toList_iff.1 he) h2.2
  rw [h2.1] at this
  exact this

/-! ### The region of 'compare' -/
def pick1 : Code → Option (Array Oper)
  | .region 1 o _ => some o
  | .seq a b => match pick1 a with
    | some c => some c
    | none => pick1 b
  | .block _ c => pick1 c
  | .scope c => pick1 c
  | _ => none
noncomputable def O10 : Array Oper := (Yba.f10.body.bind pick1).getD #[]

/-- What each of the first operations gives. -/
def V10 (b1 o1 b2 o2 : Nat) (x y : Q) : List Value := [
  .pointer (some ⟨b1, o1, none⟩),
  .pointer (some ⟨b1, o1, none⟩),
  .pointer (some ⟨b1, o1 + 4, none⟩),
  .agg #[.int .i64 x.d0, .int .i64 x.d1, .int .i64 x.d2],
  .pointer (some ⟨b2, o2, none⟩),
  .pointer (some ⟨b2, o2, none⟩),
  .pointer (some ⟨b2, o2 + 4, none⟩),
  .agg #[.int .i64 y.d0, .int .i64 y.d1, .int .i64 y.d2],
  .int .i64 (cmp3 x.d0 x.d1 x.d2 y.d0 y.d1 y.d2),
  .pointer (some ⟨b1, o1, none⟩),
  .pointer (some ⟨b1, o1, none⟩),
  .pointer (some ⟨b1, o1 + 11, none⟩),
  .bool x.ng,
  .pointer (some ⟨b2, o2, none⟩),
  .pointer (some ⟨b2, o2, none⟩),
  .pointer (some ⟨b2, o2 + 11, none⟩),
  .bool y.ng,
  .int .i64 (cmpI (b2i x.ng) (b2i y.ng)),
  .pointer (some ⟨b2, o2, none⟩),
  .pointer (some ⟨b2, o2, none⟩),
  .pointer (some ⟨b2, o2 + 8, none⟩),
  .int .i32 y.depth,
  .pointer (some ⟨b1, o1, none⟩),
  .pointer (some ⟨b1, o1, none⟩),
  .pointer (some ⟨b1, o1 + 8, none⟩),
  .int .i32 x.depth,
  .int .i64 (cmpI y.depth x.depth),
  .pointer (some ⟨b1, o1, none⟩),
  .pointer (some ⟨b1, o1, none⟩),
  .pointer (some ⟨b1, o1, none⟩),
  .pointer (some ⟨b1, o1, none⟩),
  .int .u8 x.kind,
  .pointer (some ⟨b2, o2, none⟩),
  .pointer (some ⟨b2, o2, none⟩),
  .pointer (some ⟨b2, o2, none⟩),
  .pointer (some ⟨b2, o2, none⟩),
  .int .u8 y.kind,
  .int .i64 (cmpI x.kind y.kind),
  .pointer (some ⟨b1, o1, none⟩),
  .pointer (some ⟨b1, o1, none⟩),
  .pointer (some ⟨b1, o1 + 12, none⟩),
  .int .i8 x.md,
  .pointer (some ⟨b2, o2, none⟩),
  .pointer (some ⟨b2, o2, none⟩),
  .pointer (some ⟨b2, o2 + 12, none⟩),
  .int .i8 y.md,
  .int .i64 (cmpI x.md y.md),
  .pointer (some ⟨b1, o1, none⟩),
  .pointer (some ⟨b1, o1, none⟩),
  .pointer (some ⟨b1, o1 + 9, none⟩),
  .pointer (some ⟨b1, o1 + 9, none⟩),
  .int .i32 x.f0,
  .pointer (some ⟨b2, o2, none⟩),
  .pointer (some ⟨b2, o2, none⟩),
  .pointer (some ⟨b2, o2 + 9, none⟩),
  .pointer (some ⟨b2, o2 + 9, none⟩),
  .int .i32 y.f0,
  .int .i64 (cmpI x.f0 y.f0),
  .pointer (some ⟨b1, o1, none⟩),
  .pointer (some ⟨b1, o1, none⟩),
  .pointer (some ⟨b1, o1 + 9, none⟩),
  .pointer (some ⟨b1, o1 + 10, none⟩),
  .int .i32 x.f1,
  .pointer (some ⟨b2, o2, none⟩),
  .pointer (some ⟨b2, o2, none⟩),
  .pointer (some ⟨b2, o2 + 9, none⟩),
  .pointer (some ⟨b2, o2 + 10, none⟩),
  .int .i32 y.f1,
  .int .i64 (cmpI x.f1 y.f1),
  .pointer (some ⟨b1, o1, none⟩),
  .pointer (some ⟨b1, o1, none⟩),
  .pointer (some ⟨b1, o1, none⟩),
  .pointer (some ⟨b1, o1 + 1, none⟩),
  .int .i32 x.a,
  .pointer (some ⟨b2, o2, none⟩),
  .pointer (some ⟨b2, o2, none⟩),
  .pointer (some ⟨b2, o2, none⟩),
  .pointer (some ⟨b2, o2 + 1, none⟩),
  .int .i32 y.a,
  .int .i64 (cmpI x.a y.a),
  .pointer (some ⟨b1, o1, none⟩),
  .pointer (some ⟨b1, o1, none⟩),
  .pointer (some ⟨b1, o1, none⟩),
  .pointer (some ⟨b1, o1 + 2, none⟩),
  .int .i32 x.b,
  .pointer (some ⟨b2, o2, none⟩),
  .pointer (some ⟨b2, o2, none⟩),
  .pointer (some ⟨b2, o2, none⟩),
  .pointer (some ⟨b2, o2 + 2, none⟩),
  .int .i32 y.b,
  .int .i64 (cmpI x.b y.b)]


structure J10 (b1 o1 b2 o2 : Nat) (x y : Q) (w0 : World) (listed : Array Bool) (a : Act) (w : World) : Prop where
  lsz : listed.size = 94
  tsz : a.tmps.size = 98
  dfs : a.defers = []
  p0 : a.tmps.getD 0 undef = .pointer (some ⟨b1, o1, none⟩)
  p1 : a.tmps.getD 1 undef = .pointer (some ⟨b2, o2, none⟩)
  vals : ∀ i, i < 91 → listed.getD i false = true → a.tmps.getD (i + 5) undef = (V10 b1 o1 b2 o2 x y).getD i undef
  laid : Laid w0 w
  bs : listed.getD 91 false = true → ∃ b, a.tmps.getD 96 undef = .slice (some ⟨b, 0, none⟩) 9 9 ∧ ∀ k, k < 9 → w.cell? ⟨b, k, none⟩ = ([cmp3 x.d0 x.d1 x.d2 y.d0 y.d1 y.d2, cmpI (b2i x.ng) (b2i y.ng), cmpI y.depth x.depth, cmpI x.kind y.kind, cmpI x.md y.md, cmpI x.f0 y.f0, cmpI x.f1 y.f1, cmpI x.a y.a, cmpI x.b y.b].map (Value.int .i64))[k]?
  ans : listed.getD 92 false = true → a.tmps.getD 97 undef = .int .i64 (cmpQ x y)
  fin : listed.getD 93 false = true → a.tmps.getD 4 undef = .int .i64 (cmpQ x y)

theorem getD_put {t : Array Value} {d j : Nat} {v : Value} (h : j ≠ d) : (t.setIfInBounds d v).getD j undef = t.getD j undef := by
  simp [Array.getD_eq_getD_getElem?, Array.getElem?_setIfInBounds_ne (Ne.symm h)]
theorem getD_put_same {t : Array Value} {d : Nat} {v : Value} (h : d < t.size) : (t.setIfInBounds d v).getD d undef = v := by
  simp [Array.getD_eq_getD_getElem?, h]
theorem lst_ne {l : Array Bool} {i j : Nat} (h : j ≠ i) : (l.setIfInBounds i true).getD j false = l.getD j false := by
  simp [Array.getD_eq_getD_getElem?, Array.getElem?_setIfInBounds_ne (Ne.symm h)]
theorem bs_laid {w w' : World} (hl : Laid w w') {b : Nat} {l : List Int} (h : ∀ k, k < 9 → w.cell? ⟨b, k, none⟩ = (l.map (Value.int .i64))[k]?) (hn : l.length = 9) : ∀ k, k < 9 → w'.cell? ⟨b, k, none⟩ = (l.map (Value.int .i64))[k]? := by
  intro k hk
  have hx : ∃ v, (l.map (Value.int .i64))[k]? = some v := ⟨_, List.getElem?_eq_getElem (by simpa [hn] using hk)⟩
  obtain ⟨v, hv⟩ := hx
  rw [hv]
  exact cell_keeps hl.below ((h k hk).trans hv)

variable {b1 o1 b2 o2 : Nat} {x y : Q} {w0 : World} {listed : Array Bool} {a : Act} {w : World}

/-- One of the first operations has given its value; the world has at most grown. -/
theorem J10.put (h : J10 b1 o1 b2 o2 x y w0 listed a w) {i : Nat} (hi : i < 91) {w' : World} (hl : Laid w w') : J10 b1 o1 b2 o2 x y w0 (listed.setIfInBounds i true) (a.put (some (i + 5)) ((V10 b1 o1 b2 o2 x y).getD i undef)) w' where
  lsz := by simpa using h.lsz
  tsz := by simpa [Act.put] using h.tsz
  dfs := h.dfs
  p0 := by simp only [Act.put]; rw [getD_put (by omega)]; exact h.p0
  p1 := by simp only [Act.put]; rw [getD_put (by omega)]; exact h.p1
  vals j hj hL := by
    simp only [Act.put]
    by_cases e : j = i
    · subst e; rw [getD_put_same (by rw [h.tsz]; omega)]
    · rw [lst_ne e] at hL; rw [getD_put (by omega)]; exact h.vals j hj hL
  laid := h.laid.trans hl
  bs hL := by
    rw [lst_ne (by omega)] at hL
    obtain ⟨b, h1, h2⟩ := h.bs hL
    simp only [Act.put]
    exact ⟨b, by rw [getD_put (by omega)]; exact h1, bs_laid hl h2 rfl⟩
  ans hL := by rw [lst_ne (by omega)] at hL; simp only [Act.put]; rw [getD_put (by omega)]; exact h.ans hL
  fin hL := by rw [lst_ne (by omega)] at hL; simp only [Act.put]; rw [getD_put (by omega)]; exact h.fin hL

theorem stepV {Q' : Exit → Act → World → Prop} (h : J10 b1 o1 b2 o2 x y w0 listed a w) {i : Nat} {o : Oper} (hi : i < 91) (ho : O10[i]? = some o) (hg : o.guard = none) (hd : o.dst = some (i + 5))
    (hv : (execOp a.eval o).run Yba.prog w = .ok (.value ((V10 b1 o1 b2 o2 x y).getD i undef)) w) : wpOp Yba.prog O10 Q' i (fun a' w' => J10 b1 o1 b2 o2 x y w0 (listed.setIfInBounds i true) a' w') a w := by
  unfold wpOp
  rw [ho]
  simp only [Region.wanted, hg, if_true]
  refine .inl ?_
  unfold Oper.wp
  rw [hv, Oper.upon_value, hd]
  exact h.put hi (Laid.refl _)

theorem stepC {Q' : Exit → Act → World → Prop} (h : J10 b1 o1 b2 o2 x y w0 listed a w) {i f : Nat} {args : Array Value} {o : Oper} (hi : i < 91) (ho : O10[i]? = some o) (hg : o.guard = none) (hd : o.dst = some (i + 5))
    (hv : (execOp a.eval o).run Yba.prog w = .ok (.enter f args) w) (hc : Calls Yba.prog f args w fun e w' => e = .returned ((V10 b1 o1 b2 o2 x y).getD i undef) ∧ Laid w w') : wpOp Yba.prog O10 Q' i (fun a' w' => J10 b1 o1 b2 o2 x y w0 (listed.setIfInBounds i true) a' w') a w := by
  unfold wpOp
  rw [ho]
  simp only [Region.wanted, hg, if_true]
  refine .inl ?_
  unfold Oper.wp
  rw [hv, Oper.upon_enter]
  refine hc.mono ?_
  rintro e w' ⟨rfl, hl⟩
  rw [hd]
  exact h.put hi hl

theorem laid_same {P : Program} {f : Nat} {args : Array Value} {w : World} {v : Value} (h : Calls P f args w fun e w' => e = .returned v ∧ w' = w) : Calls P f args w fun e w' => e = .returned v ∧ Laid w w' :=
  h.mono fun _ _ ⟨h1, h2⟩ => ⟨h1, by rw [h2]; exact Laid.refl _⟩

theorem s10_0 {Q' : Exit → Act → World → Prop} (hx : QAt w0 b1 o1 x) (hy : QAt w0 b2 o2 y) (h : J10 b1 o1 b2 o2 x y w0 listed a w) (hr : 0 ∈ Region.ready .any O10 listed) :
    wpOp Yba.prog O10 Q' 0 (fun a' w' => J10 b1 o1 b2 o2 x y w0 (listed.setIfInBounds 0 true) a' w') a w := by
  have v0 := h.p0
  refine stepV h (o := O10.getD 0 default) (by omega) rfl rfl rfl ?_
  conv => lhs; arg 2; arg 2; whnf
  show _ = Result.ok (Next.value (.pointer (some ⟨b1, o1, none⟩))) w
  clear hr h hx hy
  go_simp

theorem s10_1 {Q' : Exit → Act → World → Prop} (hx : QAt w0 b1 o1 x) (hy : QAt w0 b2 o2 y) (h : J10 b1 o1 b2 o2 x y w0 listed a w) (hr : 1 ∈ Region.ready .any O10 listed) :
    wpOp Yba.prog O10 Q' 1 (fun a' w' => J10 b1 o1 b2 o2 x y w0 (listed.setIfInBounds 1 true) a' w') a w := by
  have v5 : a.tmps.getD 5 undef = .pointer (some ⟨b1, o1, none⟩) := h.vals 0 (by omega) (dep_of hr 0 (o := O10.getD 1 default) rfl rfl)
  refine stepV h (o := O10.getD 1 default) (by omega) rfl rfl rfl ?_
  conv => lhs; arg 2; arg 2; whnf
  show _ = Result.ok (Next.value (.pointer (some ⟨b1, o1, none⟩))) w
  clear hr h hx hy
  go_simp

theorem s10_2 {Q' : Exit → Act → World → Prop} (hx : QAt w0 b1 o1 x) (hy : QAt w0 b2 o2 y) (h : J10 b1 o1 b2 o2 x y w0 listed a w) (hr : 2 ∈ Region.ready .any O10 listed) :
    wpOp Yba.prog O10 Q' 2 (fun a' w' => J10 b1 o1 b2 o2 x y w0 (listed.setIfInBounds 2 true) a' w') a w := by
  have v6 : a.tmps.getD 6 undef = .pointer (some ⟨b1, o1, none⟩) := h.vals 1 (by omega) (dep_of hr 1 (o := O10.getD 2 default) rfl rfl)
  refine stepV h (o := O10.getD 2 default) (by omega) rfl rfl rfl ?_
  conv => lhs; arg 2; arg 2; whnf
  show _ = Result.ok (Next.value (.pointer (some ⟨b1, o1 + 4, none⟩))) w
  clear hr h hx hy
  go_simp

theorem s10_3 {Q' : Exit → Act → World → Prop} (hx : QAt w0 b1 o1 x) (hy : QAt w0 b2 o2 y) (h : J10 b1 o1 b2 o2 x y w0 listed a w) (hr : 3 ∈ Region.ready .any O10 listed) :
    wpOp Yba.prog O10 Q' 3 (fun a' w' => J10 b1 o1 b2 o2 x y w0 (listed.setIfInBounds 3 true) a' w') a w := by
  have v7 : a.tmps.getD 7 undef = .pointer (some ⟨b1, o1 + 4, none⟩) := h.vals 2 (by omega) (dep_of hr 2 (o := O10.getD 3 default) rfl rfl)
  have c4 : w.cell? ⟨b1, o1 + 4, none⟩ = some (.int .i64 x.d0) := cell_keeps h.laid.below (hx 4 (by omega))
  have c5 : w.cell? ⟨b1, o1 + 5, none⟩ = some (.int .i64 x.d1) := cell_keeps h.laid.below (hx 5 (by omega))
  have c6 : w.cell? ⟨b1, o1 + 6, none⟩ = some (.int .i64 x.d2) := cell_keeps h.laid.below (hx 6 (by omega))
  refine stepV h (o := O10.getD 3 default) (by omega) rfl rfl rfl ?_
  conv => lhs; arg 2; arg 2; whnf
  show _ = Result.ok (Next.value (.agg #[.int .i64 x.d0, .int .i64 x.d1, .int .i64 x.d2])) w
  clear hr h hx hy
  go_simp

theorem s10_4 {Q' : Exit → Act → World → Prop} (hx : QAt w0 b1 o1 x) (hy : QAt w0 b2 o2 y) (h : J10 b1 o1 b2 o2 x y w0 listed a w) (hr : 4 ∈ Region.ready .any O10 listed) :
    wpOp Yba.prog O10 Q' 4 (fun a' w' => J10 b1 o1 b2 o2 x y w0 (listed.setIfInBounds 4 true) a' w') a w := by
  have v1 := h.p1
  refine stepV h (o := O10.getD 4 default) (by omega) rfl rfl rfl ?_
  conv => lhs; arg 2; arg 2; whnf
  show _ = Result.ok (Next.value (.pointer (some ⟨b2, o2, none⟩))) w
  clear hr h hx hy
  go_simp

theorem s10_5 {Q' : Exit → Act → World → Prop} (hx : QAt w0 b1 o1 x) (hy : QAt w0 b2 o2 y) (h : J10 b1 o1 b2 o2 x y w0 listed a w) (hr : 5 ∈ Region.ready .any O10 listed) :
    wpOp Yba.prog O10 Q' 5 (fun a' w' => J10 b1 o1 b2 o2 x y w0 (listed.setIfInBounds 5 true) a' w') a w := by
  have v9 : a.tmps.getD 9 undef = .pointer (some ⟨b2, o2, none⟩) := h.vals 4 (by omega) (dep_of hr 4 (o := O10.getD 5 default) rfl rfl)
  refine stepV h (o := O10.getD 5 default) (by omega) rfl rfl rfl ?_
  conv => lhs; arg 2; arg 2; whnf
  show _ = Result.ok (Next.value (.pointer (some ⟨b2, o2, none⟩))) w
  clear hr h hx hy
  go_simp

theorem s10_6 {Q' : Exit → Act → World → Prop} (hx : QAt w0 b1 o1 x) (hy : QAt w0 b2 o2 y) (h : J10 b1 o1 b2 o2 x y w0 listed a w) (hr : 6 ∈ Region.ready .any O10 listed) :
    wpOp Yba.prog O10 Q' 6 (fun a' w' => J10 b1 o1 b2 o2 x y w0 (listed.setIfInBounds 6 true) a' w') a w := by
  have v10 : a.tmps.getD 10 undef = .pointer (some ⟨b2, o2, none⟩) := h.vals 5 (by omega) (dep_of hr 5 (o := O10.getD 6 default) rfl rfl)
  refine stepV h (o := O10.getD 6 default) (by omega) rfl rfl rfl ?_
  conv => lhs; arg 2; arg 2; whnf
  show _ = Result.ok (Next.value (.pointer (some ⟨b2, o2 + 4, none⟩))) w
  clear hr h hx hy
  go_simp

theorem s10_7 {Q' : Exit → Act → World → Prop} (hx : QAt w0 b1 o1 x) (hy : QAt w0 b2 o2 y) (h : J10 b1 o1 b2 o2 x y w0 listed a w) (hr : 7 ∈ Region.ready .any O10 listed) :
    wpOp Yba.prog O10 Q' 7 (fun a' w' => J10 b1 o1 b2 o2 x y w0 (listed.setIfInBounds 7 true) a' w') a w := by
  have v11 : a.tmps.getD 11 undef = .pointer (some ⟨b2, o2 + 4, none⟩) := h.vals 6 (by omega) (dep_of hr 6 (o := O10.getD 7 default) rfl rfl)
  have c4 : w.cell? ⟨b2, o2 + 4, none⟩ = some (.int .i64 y.d0) := cell_keeps h.laid.below (hy 4 (by omega))
  have c5 : w.cell? ⟨b2, o2 + 5, none⟩ = some (.int .i64 y.d1) := cell_keeps h.laid.below (hy 5 (by omega))
  have c6 : w.cell? ⟨b2, o2 + 6, none⟩ = some (.int .i64 y.d2) := cell_keeps h.laid.below (hy 6 (by omega))
  refine stepV h (o := O10.getD 7 default) (by omega) rfl rfl rfl ?_
  conv => lhs; arg 2; arg 2; whnf
  show _ = Result.ok (Next.value (.agg #[.int .i64 y.d0, .int .i64 y.d1, .int .i64 y.d2])) w
  clear hr h hx hy
  go_simp

theorem s10_8 {Q' : Exit → Act → World → Prop} (hx : QAt w0 b1 o1 x) (hy : QAt w0 b2 o2 y) (h : J10 b1 o1 b2 o2 x y w0 listed a w) (hr : 8 ∈ Region.ready .any O10 listed) :
    wpOp Yba.prog O10 Q' 8 (fun a' w' => J10 b1 o1 b2 o2 x y w0 (listed.setIfInBounds 8 true) a' w') a w := by
  have v8 : a.tmps.getD 8 undef = .agg #[.int .i64 x.d0, .int .i64 x.d1, .int .i64 x.d2] := h.vals 3 (by omega) (dep_of hr 3 (o := O10.getD 8 default) rfl rfl)
  have v12 : a.tmps.getD 12 undef = .agg #[.int .i64 y.d0, .int .i64 y.d1, .int .i64 y.d2] := h.vals 7 (by omega) (dep_of hr 7 (o := O10.getD 8 default) rfl rfl)
  refine stepC (f := 31) (args := #[.agg #[.int .i64 x.d0, .int .i64 x.d1, .int .i64 x.d2], .agg #[.int .i64 y.d0, .int .i64 y.d1, .int .i64 y.d2]]) h (o := O10.getD 8 default) (by omega) rfl rfl rfl ?_ (compareL_any _ _ _ _ _ _ _)
  conv => lhs; arg 2; arg 2; whnf
  clear hr h hx hy
  go_simp

theorem s10_9 {Q' : Exit → Act → World → Prop} (hx : QAt w0 b1 o1 x) (hy : QAt w0 b2 o2 y) (h : J10 b1 o1 b2 o2 x y w0 listed a w) (hr : 9 ∈ Region.ready .any O10 listed) :
    wpOp Yba.prog O10 Q' 9 (fun a' w' => J10 b1 o1 b2 o2 x y w0 (listed.setIfInBounds 9 true) a' w') a w := by
  have v0 := h.p0
  refine stepV h (o := O10.getD 9 default) (by omega) rfl rfl rfl ?_
  conv => lhs; arg 2; arg 2; whnf
  show _ = Result.ok (Next.value (.pointer (some ⟨b1, o1, none⟩))) w
  clear hr h hx hy
  go_simp

theorem s10_10 {Q' : Exit → Act → World → Prop} (hx : QAt w0 b1 o1 x) (hy : QAt w0 b2 o2 y) (h : J10 b1 o1 b2 o2 x y w0 listed a w) (hr : 10 ∈ Region.ready .any O10 listed) :
    wpOp Yba.prog O10 Q' 10 (fun a' w' => J10 b1 o1 b2 o2 x y w0 (listed.setIfInBounds 10 true) a' w') a w := by
  have v14 : a.tmps.getD 14 undef = .pointer (some ⟨b1, o1, none⟩) := h.vals 9 (by omega) (dep_of hr 9 (o := O10.getD 10 default) rfl rfl)
  refine stepV h (o := O10.getD 10 default) (by omega) rfl rfl rfl ?_
  conv => lhs; arg 2; arg 2; whnf
  show _ = Result.ok (Next.value (.pointer (some ⟨b1, o1, none⟩))) w
  clear hr h hx hy
  go_simp

theorem s10_11 {Q' : Exit → Act → World → Prop} (hx : QAt w0 b1 o1 x) (hy : QAt w0 b2 o2 y) (h : J10 b1 o1 b2 o2 x y w0 listed a w) (hr : 11 ∈ Region.ready .any O10 listed) :
    wpOp Yba.prog O10 Q' 11 (fun a' w' => J10 b1 o1 b2 o2 x y w0 (listed.setIfInBounds 11 true) a' w') a w := by
  have v15 : a.tmps.getD 15 undef = .pointer (some ⟨b1, o1, none⟩) := h.vals 10 (by omega) (dep_of hr 10 (o := O10.getD 11 default) rfl rfl)
  refine stepV h (o := O10.getD 11 default) (by omega) rfl rfl rfl ?_
  conv => lhs; arg 2; arg 2; whnf
  show _ = Result.ok (Next.value (.pointer (some ⟨b1, o1 + 11, none⟩))) w
  clear hr h hx hy
  go_simp

theorem s10_12 {Q' : Exit → Act → World → Prop} (hx : QAt w0 b1 o1 x) (hy : QAt w0 b2 o2 y) (h : J10 b1 o1 b2 o2 x y w0 listed a w) (hr : 12 ∈ Region.ready .any O10 listed) :
    wpOp Yba.prog O10 Q' 12 (fun a' w' => J10 b1 o1 b2 o2 x y w0 (listed.setIfInBounds 12 true) a' w') a w := by
  have v16 : a.tmps.getD 16 undef = .pointer (some ⟨b1, o1 + 11, none⟩) := h.vals 11 (by omega) (dep_of hr 11 (o := O10.getD 12 default) rfl rfl)
  have c11 : w.cell? ⟨b1, o1 + 11, none⟩ = some (.bool x.ng) := cell_keeps h.laid.below (hx 11 (by omega))
  refine stepV h (o := O10.getD 12 default) (by omega) rfl rfl rfl ?_
  conv => lhs; arg 2; arg 2; whnf
  show _ = Result.ok (Next.value (.bool x.ng)) w
  clear hr h hx hy
  go_simp

theorem s10_13 {Q' : Exit → Act → World → Prop} (hx : QAt w0 b1 o1 x) (hy : QAt w0 b2 o2 y) (h : J10 b1 o1 b2 o2 x y w0 listed a w) (hr : 13 ∈ Region.ready .any O10 listed) :
    wpOp Yba.prog O10 Q' 13 (fun a' w' => J10 b1 o1 b2 o2 x y w0 (listed.setIfInBounds 13 true) a' w') a w := by
  have v1 := h.p1
  refine stepV h (o := O10.getD 13 default) (by omega) rfl rfl rfl ?_
  conv => lhs; arg 2; arg 2; whnf
  show _ = Result.ok (Next.value (.pointer (some ⟨b2, o2, none⟩))) w
  clear hr h hx hy
  go_simp

theorem s10_14 {Q' : Exit → Act → World → Prop} (hx : QAt w0 b1 o1 x) (hy : QAt w0 b2 o2 y) (h : J10 b1 o1 b2 o2 x y w0 listed a w) (hr : 14 ∈ Region.ready .any O10 listed) :
    wpOp Yba.prog O10 Q' 14 (fun a' w' => J10 b1 o1 b2 o2 x y w0 (listed.setIfInBounds 14 true) a' w') a w := by
  have v18 : a.tmps.getD 18 undef = .pointer (some ⟨b2, o2, none⟩) := h.vals 13 (by omega) (dep_of hr 13 (o := O10.getD 14 default) rfl rfl)
  refine stepV h (o := O10.getD 14 default) (by omega) rfl rfl rfl ?_
  conv => lhs; arg 2; arg 2; whnf
  show _ = Result.ok (Next.value (.pointer (some ⟨b2, o2, none⟩))) w
  clear hr h hx hy
  go_simp

theorem s10_15 {Q' : Exit → Act → World → Prop} (hx : QAt w0 b1 o1 x) (hy : QAt w0 b2 o2 y) (h : J10 b1 o1 b2 o2 x y w0 listed a w) (hr : 15 ∈ Region.ready .any O10 listed) :
    wpOp Yba.prog O10 Q' 15 (fun a' w' => J10 b1 o1 b2 o2 x y w0 (listed.setIfInBounds 15 true) a' w') a w := by
  have v19 : a.tmps.getD 19 undef = .pointer (some ⟨b2, o2, none⟩) := h.vals 14 (by omega) (dep_of hr 14 (o := O10.getD 15 default) rfl rfl)
  refine stepV h (o := O10.getD 15 default) (by omega) rfl rfl rfl ?_
  conv => lhs; arg 2; arg 2; whnf
  show _ = Result.ok (Next.value (.pointer (some ⟨b2, o2 + 11, none⟩))) w
  clear hr h hx hy
  go_simp

theorem s10_16 {Q' : Exit → Act → World → Prop} (hx : QAt w0 b1 o1 x) (hy : QAt w0 b2 o2 y) (h : J10 b1 o1 b2 o2 x y w0 listed a w) (hr : 16 ∈ Region.ready .any O10 listed) :
    wpOp Yba.prog O10 Q' 16 (fun a' w' => J10 b1 o1 b2 o2 x y w0 (listed.setIfInBounds 16 true) a' w') a w := by
  have v20 : a.tmps.getD 20 undef = .pointer (some ⟨b2, o2 + 11, none⟩) := h.vals 15 (by omega) (dep_of hr 15 (o := O10.getD 16 default) rfl rfl)
  have c11 : w.cell? ⟨b2, o2 + 11, none⟩ = some (.bool y.ng) := cell_keeps h.laid.below (hy 11 (by omega))
  refine stepV h (o := O10.getD 16 default) (by omega) rfl rfl rfl ?_
  conv => lhs; arg 2; arg 2; whnf
  show _ = Result.ok (Next.value (.bool y.ng)) w
  clear hr h hx hy
  go_simp

theorem s10_17 {Q' : Exit → Act → World → Prop} (hx : QAt w0 b1 o1 x) (hy : QAt w0 b2 o2 y) (h : J10 b1 o1 b2 o2 x y w0 listed a w) (hr : 17 ∈ Region.ready .any O10 listed) :
    wpOp Yba.prog O10 Q' 17 (fun a' w' => J10 b1 o1 b2 o2 x y w0 (listed.setIfInBounds 17 true) a' w') a w := by
  have v17 : a.tmps.getD 17 undef = .bool x.ng := h.vals 12 (by omega) (dep_of hr 12 (o := O10.getD 17 default) rfl rfl)
  have v21 : a.tmps.getD 21 undef = .bool y.ng := h.vals 16 (by omega) (dep_of hr 16 (o := O10.getD 17 default) rfl rfl)
  refine stepC (f := 32) (args := #[.bool x.ng, .bool y.ng]) h (o := O10.getD 17 default) (by omega) rfl rfl rfl ?_ (laid_same (compareBools_any _ _ _))
  conv => lhs; arg 2; arg 2; whnf
  clear hr h hx hy
  go_simp

theorem s10_18 {Q' : Exit → Act → World → Prop} (hx : QAt w0 b1 o1 x) (hy : QAt w0 b2 o2 y) (h : J10 b1 o1 b2 o2 x y w0 listed a w) (hr : 18 ∈ Region.ready .any O10 listed) :
    wpOp Yba.prog O10 Q' 18 (fun a' w' => J10 b1 o1 b2 o2 x y w0 (listed.setIfInBounds 18 true) a' w') a w := by
  have v1 := h.p1
  refine stepV h (o := O10.getD 18 default) (by omega) rfl rfl rfl ?_
  conv => lhs; arg 2; arg 2; whnf
  show _ = Result.ok (Next.value (.pointer (some ⟨b2, o2, none⟩))) w
  clear hr h hx hy
  go_simp

theorem s10_19 {Q' : Exit → Act → World → Prop} (hx : QAt w0 b1 o1 x) (hy : QAt w0 b2 o2 y) (h : J10 b1 o1 b2 o2 x y w0 listed a w) (hr : 19 ∈ Region.ready .any O10 listed) :
    wpOp Yba.prog O10 Q' 19 (fun a' w' => J10 b1 o1 b2 o2 x y w0 (listed.setIfInBounds 19 true) a' w') a w := by
  have v23 : a.tmps.getD 23 undef = .pointer (some ⟨b2, o2, none⟩) := h.vals 18 (by omega) (dep_of hr 18 (o := O10.getD 19 default) rfl rfl)
  refine stepV h (o := O10.getD 19 default) (by omega) rfl rfl rfl ?_
  conv => lhs; arg 2; arg 2; whnf
  show _ = Result.ok (Next.value (.pointer (some ⟨b2, o2, none⟩))) w
  clear hr h hx hy
  go_simp

theorem s10_20 {Q' : Exit → Act → World → Prop} (hx : QAt w0 b1 o1 x) (hy : QAt w0 b2 o2 y) (h : J10 b1 o1 b2 o2 x y w0 listed a w) (hr : 20 ∈ Region.ready .any O10 listed) :
    wpOp Yba.prog O10 Q' 20 (fun a' w' => J10 b1 o1 b2 o2 x y w0 (listed.setIfInBounds 20 true) a' w') a w := by
  have v24 : a.tmps.getD 24 undef = .pointer (some ⟨b2, o2, none⟩) := h.vals 19 (by omega) (dep_of hr 19 (o := O10.getD 20 default) rfl rfl)
  refine stepV h (o := O10.getD 20 default) (by omega) rfl rfl rfl ?_
  conv => lhs; arg 2; arg 2; whnf
  show _ = Result.ok (Next.value (.pointer (some ⟨b2, o2 + 8, none⟩))) w
  clear hr h hx hy
  go_simp

theorem s10_21 {Q' : Exit → Act → World → Prop} (hx : QAt w0 b1 o1 x) (hy : QAt w0 b2 o2 y) (h : J10 b1 o1 b2 o2 x y w0 listed a w) (hr : 21 ∈ Region.ready .any O10 listed) :
    wpOp Yba.prog O10 Q' 21 (fun a' w' => J10 b1 o1 b2 o2 x y w0 (listed.setIfInBounds 21 true) a' w') a w := by
  have v25 : a.tmps.getD 25 undef = .pointer (some ⟨b2, o2 + 8, none⟩) := h.vals 20 (by omega) (dep_of hr 20 (o := O10.getD 21 default) rfl rfl)
  have c8 : w.cell? ⟨b2, o2 + 8, none⟩ = some (.int .i32 y.depth) := cell_keeps h.laid.below (hy 8 (by omega))
  refine stepV h (o := O10.getD 21 default) (by omega) rfl rfl rfl ?_
  conv => lhs; arg 2; arg 2; whnf
  show _ = Result.ok (Next.value (.int .i32 y.depth)) w
  clear hr h hx hy
  go_simp

theorem s10_22 {Q' : Exit → Act → World → Prop} (hx : QAt w0 b1 o1 x) (hy : QAt w0 b2 o2 y) (h : J10 b1 o1 b2 o2 x y w0 listed a w) (hr : 22 ∈ Region.ready .any O10 listed) :
    wpOp Yba.prog O10 Q' 22 (fun a' w' => J10 b1 o1 b2 o2 x y w0 (listed.setIfInBounds 22 true) a' w') a w := by
  have v0 := h.p0
  refine stepV h (o := O10.getD 22 default) (by omega) rfl rfl rfl ?_
  conv => lhs; arg 2; arg 2; whnf
  show _ = Result.ok (Next.value (.pointer (some ⟨b1, o1, none⟩))) w
  clear hr h hx hy
  go_simp

theorem s10_23 {Q' : Exit → Act → World → Prop} (hx : QAt w0 b1 o1 x) (hy : QAt w0 b2 o2 y) (h : J10 b1 o1 b2 o2 x y w0 listed a w) (hr : 23 ∈ Region.ready .any O10 listed) :
    wpOp Yba.prog O10 Q' 23 (fun a' w' => J10 b1 o1 b2 o2 x y w0 (listed.setIfInBounds 23 true) a' w') a w := by
  have v27 : a.tmps.getD 27 undef = .pointer (some ⟨b1, o1, none⟩) := h.vals 22 (by omega) (dep_of hr 22 (o := O10.getD 23 default) rfl rfl)
  refine stepV h (o := O10.getD 23 default) (by omega) rfl rfl rfl ?_
  conv => lhs; arg 2; arg 2; whnf
  show _ = Result.ok (Next.value (.pointer (some ⟨b1, o1, none⟩))) w
  clear hr h hx hy
  go_simp

theorem s10_24 {Q' : Exit → Act → World → Prop} (hx : QAt w0 b1 o1 x) (hy : QAt w0 b2 o2 y) (h : J10 b1 o1 b2 o2 x y w0 listed a w) (hr : 24 ∈ Region.ready .any O10 listed) :
    wpOp Yba.prog O10 Q' 24 (fun a' w' => J10 b1 o1 b2 o2 x y w0 (listed.setIfInBounds 24 true) a' w') a w := by
  have v28 : a.tmps.getD 28 undef = .pointer (some ⟨b1, o1, none⟩) := h.vals 23 (by omega) (dep_of hr 23 (o := O10.getD 24 default) rfl rfl)
  refine stepV h (o := O10.getD 24 default) (by omega) rfl rfl rfl ?_
  conv => lhs; arg 2; arg 2; whnf
  show _ = Result.ok (Next.value (.pointer (some ⟨b1, o1 + 8, none⟩))) w
  clear hr h hx hy
  go_simp

theorem s10_25 {Q' : Exit → Act → World → Prop} (hx : QAt w0 b1 o1 x) (hy : QAt w0 b2 o2 y) (h : J10 b1 o1 b2 o2 x y w0 listed a w) (hr : 25 ∈ Region.ready .any O10 listed) :
    wpOp Yba.prog O10 Q' 25 (fun a' w' => J10 b1 o1 b2 o2 x y w0 (listed.setIfInBounds 25 true) a' w') a w := by
  have v29 : a.tmps.getD 29 undef = .pointer (some ⟨b1, o1 + 8, none⟩) := h.vals 24 (by omega) (dep_of hr 24 (o := O10.getD 25 default) rfl rfl)
  have c8 : w.cell? ⟨b1, o1 + 8, none⟩ = some (.int .i32 x.depth) := cell_keeps h.laid.below (hx 8 (by omega))
  refine stepV h (o := O10.getD 25 default) (by omega) rfl rfl rfl ?_
  conv => lhs; arg 2; arg 2; whnf
  show _ = Result.ok (Next.value (.int .i32 x.depth)) w
  clear hr h hx hy
  go_simp

theorem s10_26 {Q' : Exit → Act → World → Prop} (hx : QAt w0 b1 o1 x) (hy : QAt w0 b2 o2 y) (h : J10 b1 o1 b2 o2 x y w0 listed a w) (hr : 26 ∈ Region.ready .any O10 listed) :
    wpOp Yba.prog O10 Q' 26 (fun a' w' => J10 b1 o1 b2 o2 x y w0 (listed.setIfInBounds 26 true) a' w') a w := by
  have v26 : a.tmps.getD 26 undef = .int .i32 y.depth := h.vals 21 (by omega) (dep_of hr 21 (o := O10.getD 26 default) rfl rfl)
  have v30 : a.tmps.getD 30 undef = .int .i32 x.depth := h.vals 25 (by omega) (dep_of hr 25 (o := O10.getD 26 default) rfl rfl)
  refine stepC (f := 33) (args := #[.int .i32 y.depth, .int .i32 x.depth]) h (o := O10.getD 26 default) (by omega) rfl rfl rfl ?_ (laid_same (compare33_any _ _ _))
  conv => lhs; arg 2; arg 2; whnf
  clear hr h hx hy
  go_simp

theorem s10_27 {Q' : Exit → Act → World → Prop} (hx : QAt w0 b1 o1 x) (hy : QAt w0 b2 o2 y) (h : J10 b1 o1 b2 o2 x y w0 listed a w) (hr : 27 ∈ Region.ready .any O10 listed) :
    wpOp Yba.prog O10 Q' 27 (fun a' w' => J10 b1 o1 b2 o2 x y w0 (listed.setIfInBounds 27 true) a' w') a w := by
  have v0 := h.p0
  refine stepV h (o := O10.getD 27 default) (by omega) rfl rfl rfl ?_
  conv => lhs; arg 2; arg 2; whnf
  show _ = Result.ok (Next.value (.pointer (some ⟨b1, o1, none⟩))) w
  clear hr h hx hy
  go_simp

theorem s10_28 {Q' : Exit → Act → World → Prop} (hx : QAt w0 b1 o1 x) (hy : QAt w0 b2 o2 y) (h : J10 b1 o1 b2 o2 x y w0 listed a w) (hr : 28 ∈ Region.ready .any O10 listed) :
    wpOp Yba.prog O10 Q' 28 (fun a' w' => J10 b1 o1 b2 o2 x y w0 (listed.setIfInBounds 28 true) a' w') a w := by
  have v32 : a.tmps.getD 32 undef = .pointer (some ⟨b1, o1, none⟩) := h.vals 27 (by omega) (dep_of hr 27 (o := O10.getD 28 default) rfl rfl)
  refine stepV h (o := O10.getD 28 default) (by omega) rfl rfl rfl ?_
  conv => lhs; arg 2; arg 2; whnf
  show _ = Result.ok (Next.value (.pointer (some ⟨b1, o1, none⟩))) w
  clear hr h hx hy
  go_simp

theorem s10_29 {Q' : Exit → Act → World → Prop} (hx : QAt w0 b1 o1 x) (hy : QAt w0 b2 o2 y) (h : J10 b1 o1 b2 o2 x y w0 listed a w) (hr : 29 ∈ Region.ready .any O10 listed) :
    wpOp Yba.prog O10 Q' 29 (fun a' w' => J10 b1 o1 b2 o2 x y w0 (listed.setIfInBounds 29 true) a' w') a w := by
  have v33 : a.tmps.getD 33 undef = .pointer (some ⟨b1, o1, none⟩) := h.vals 28 (by omega) (dep_of hr 28 (o := O10.getD 29 default) rfl rfl)
  refine stepV h (o := O10.getD 29 default) (by omega) rfl rfl rfl ?_
  conv => lhs; arg 2; arg 2; whnf
  show _ = Result.ok (Next.value (.pointer (some ⟨b1, o1, none⟩))) w
  clear hr h hx hy
  go_simp

theorem s10_30 {Q' : Exit → Act → World → Prop} (hx : QAt w0 b1 o1 x) (hy : QAt w0 b2 o2 y) (h : J10 b1 o1 b2 o2 x y w0 listed a w) (hr : 30 ∈ Region.ready .any O10 listed) :
    wpOp Yba.prog O10 Q' 30 (fun a' w' => J10 b1 o1 b2 o2 x y w0 (listed.setIfInBounds 30 true) a' w') a w := by
  have v34 : a.tmps.getD 34 undef = .pointer (some ⟨b1, o1, none⟩) := h.vals 29 (by omega) (dep_of hr 29 (o := O10.getD 30 default) rfl rfl)
  refine stepV h (o := O10.getD 30 default) (by omega) rfl rfl rfl ?_
  conv => lhs; arg 2; arg 2; whnf
  show _ = Result.ok (Next.value (.pointer (some ⟨b1, o1, none⟩))) w
  clear hr h hx hy
  go_simp

theorem s10_31 {Q' : Exit → Act → World → Prop} (hx : QAt w0 b1 o1 x) (hy : QAt w0 b2 o2 y) (h : J10 b1 o1 b2 o2 x y w0 listed a w) (hr : 31 ∈ Region.ready .any O10 listed) :
    wpOp Yba.prog O10 Q' 31 (fun a' w' => J10 b1 o1 b2 o2 x y w0 (listed.setIfInBounds 31 true) a' w') a w := by
  have v35 : a.tmps.getD 35 undef = .pointer (some ⟨b1, o1, none⟩) := h.vals 30 (by omega) (dep_of hr 30 (o := O10.getD 31 default) rfl rfl)
  have c0 : w.cell? ⟨b1, o1, none⟩ = some (.int .u8 x.kind) := cell_keeps h.laid.below (hx 0 (by omega))
  refine stepV h (o := O10.getD 31 default) (by omega) rfl rfl rfl ?_
  conv => lhs; arg 2; arg 2; whnf
  show _ = Result.ok (Next.value (.int .u8 x.kind)) w
  clear hr h hx hy
  go_simp

theorem s10_32 {Q' : Exit → Act → World → Prop} (hx : QAt w0 b1 o1 x) (hy : QAt w0 b2 o2 y) (h : J10 b1 o1 b2 o2 x y w0 listed a w) (hr : 32 ∈ Region.ready .any O10 listed) :
    wpOp Yba.prog O10 Q' 32 (fun a' w' => J10 b1 o1 b2 o2 x y w0 (listed.setIfInBounds 32 true) a' w') a w := by
  have v1 := h.p1
  refine stepV h (o := O10.getD 32 default) (by omega) rfl rfl rfl ?_
  conv => lhs; arg 2; arg 2; whnf
  show _ = Result.ok (Next.value (.pointer (some ⟨b2, o2, none⟩))) w
  clear hr h hx hy
  go_simp

theorem s10_33 {Q' : Exit → Act → World → Prop} (hx : QAt w0 b1 o1 x) (hy : QAt w0 b2 o2 y) (h : J10 b1 o1 b2 o2 x y w0 listed a w) (hr : 33 ∈ Region.ready .any O10 listed) :
    wpOp Yba.prog O10 Q' 33 (fun a' w' => J10 b1 o1 b2 o2 x y w0 (listed.setIfInBounds 33 true) a' w') a w := by
  have v37 : a.tmps.getD 37 undef = .pointer (some ⟨b2, o2, none⟩) := h.vals 32 (by omega) (dep_of hr 32 (o := O10.getD 33 default) rfl rfl)
  refine stepV h (o := O10.getD 33 default) (by omega) rfl rfl rfl ?_
  conv => lhs; arg 2; arg 2; whnf
  show _ = Result.ok (Next.value (.pointer (some ⟨b2, o2, none⟩))) w
  clear hr h hx hy
  go_simp

theorem s10_34 {Q' : Exit → Act → World → Prop} (hx : QAt w0 b1 o1 x) (hy : QAt w0 b2 o2 y) (h : J10 b1 o1 b2 o2 x y w0 listed a w) (hr : 34 ∈ Region.ready .any O10 listed) :
    wpOp Yba.prog O10 Q' 34 (fun a' w' => J10 b1 o1 b2 o2 x y w0 (listed.setIfInBounds 34 true) a' w') a w := by
  have v38 : a.tmps.getD 38 undef = .pointer (some ⟨b2, o2, none⟩) := h.vals 33 (by omega) (dep_of hr 33 (o := O10.getD 34 default) rfl rfl)
  refine stepV h (o := O10.getD 34 default) (by omega) rfl rfl rfl ?_
  conv => lhs; arg 2; arg 2; whnf
  show _ = Result.ok (Next.value (.pointer (some ⟨b2, o2, none⟩))) w
  clear hr h hx hy
  go_simp

theorem s10_35 {Q' : Exit → Act → World → Prop} (hx : QAt w0 b1 o1 x) (hy : QAt w0 b2 o2 y) (h : J10 b1 o1 b2 o2 x y w0 listed a w) (hr : 35 ∈ Region.ready .any O10 listed) :
    wpOp Yba.prog O10 Q' 35 (fun a' w' => J10 b1 o1 b2 o2 x y w0 (listed.setIfInBounds 35 true) a' w') a w := by
  have v39 : a.tmps.getD 39 undef = .pointer (some ⟨b2, o2, none⟩) := h.vals 34 (by omega) (dep_of hr 34 (o := O10.getD 35 default) rfl rfl)
  refine stepV h (o := O10.getD 35 default) (by omega) rfl rfl rfl ?_
  conv => lhs; arg 2; arg 2; whnf
  show _ = Result.ok (Next.value (.pointer (some ⟨b2, o2, none⟩))) w
  clear hr h hx hy
  go_simp

theorem s10_36 {Q' : Exit → Act → World → Prop} (hx : QAt w0 b1 o1 x) (hy : QAt w0 b2 o2 y) (h : J10 b1 o1 b2 o2 x y w0 listed a w) (hr : 36 ∈ Region.ready .any O10 listed) :
    wpOp Yba.prog O10 Q' 36 (fun a' w' => J10 b1 o1 b2 o2 x y w0 (listed.setIfInBounds 36 true) a' w') a w := by
  have v40 : a.tmps.getD 40 undef = .pointer (some ⟨b2, o2, none⟩) := h.vals 35 (by omega) (dep_of hr 35 (o := O10.getD 36 default) rfl rfl)
  have c0 : w.cell? ⟨b2, o2, none⟩ = some (.int .u8 y.kind) := cell_keeps h.laid.below (hy 0 (by omega))
  refine stepV h (o := O10.getD 36 default) (by omega) rfl rfl rfl ?_
  conv => lhs; arg 2; arg 2; whnf
  show _ = Result.ok (Next.value (.int .u8 y.kind)) w
  clear hr h hx hy
  go_simp

theorem s10_37 {Q' : Exit → Act → World → Prop} (hx : QAt w0 b1 o1 x) (hy : QAt w0 b2 o2 y) (h : J10 b1 o1 b2 o2 x y w0 listed a w) (hr : 37 ∈ Region.ready .any O10 listed) :
    wpOp Yba.prog O10 Q' 37 (fun a' w' => J10 b1 o1 b2 o2 x y w0 (listed.setIfInBounds 37 true) a' w') a w := by
  have v36 : a.tmps.getD 36 undef = .int .u8 x.kind := h.vals 31 (by omega) (dep_of hr 31 (o := O10.getD 37 default) rfl rfl)
  have v41 : a.tmps.getD 41 undef = .int .u8 y.kind := h.vals 36 (by omega) (dep_of hr 36 (o := O10.getD 37 default) rfl rfl)
  refine stepC (f := 34) (args := #[.int .u8 x.kind, .int .u8 y.kind]) h (o := O10.getD 37 default) (by omega) rfl rfl rfl ?_ (laid_same (compare34_any _ _ _))
  conv => lhs; arg 2; arg 2; whnf
  clear hr h hx hy
  go_simp

theorem s10_38 {Q' : Exit → Act → World → Prop} (hx : QAt w0 b1 o1 x) (hy : QAt w0 b2 o2 y) (h : J10 b1 o1 b2 o2 x y w0 listed a w) (hr : 38 ∈ Region.ready .any O10 listed) :
    wpOp Yba.prog O10 Q' 38 (fun a' w' => J10 b1 o1 b2 o2 x y w0 (listed.setIfInBounds 38 true) a' w') a w := by
  have v0 := h.p0
  refine stepV h (o := O10.getD 38 default) (by omega) rfl rfl rfl ?_
  conv => lhs; arg 2; arg 2; whnf
  show _ = Result.ok (Next.value (.pointer (some ⟨b1, o1, none⟩))) w
  clear hr h hx hy
  go_simp

theorem s10_39 {Q' : Exit → Act → World → Prop} (hx : QAt w0 b1 o1 x) (hy : QAt w0 b2 o2 y) (h : J10 b1 o1 b2 o2 x y w0 listed a w) (hr : 39 ∈ Region.ready .any O10 listed) :
    wpOp Yba.prog O10 Q' 39 (fun a' w' => J10 b1 o1 b2 o2 x y w0 (listed.setIfInBounds 39 true) a' w') a w := by
  have v43 : a.tmps.getD 43 undef = .pointer (some ⟨b1, o1, none⟩) := h.vals 38 (by omega) (dep_of hr 38 (o := O10.getD 39 default) rfl rfl)
  refine stepV h (o := O10.getD 39 default) (by omega) rfl rfl rfl ?_
  conv => lhs; arg 2; arg 2; whnf
  show _ = Result.ok (Next.value (.pointer (some ⟨b1, o1, none⟩))) w
  clear hr h hx hy
  go_simp

theorem s10_40 {Q' : Exit → Act → World → Prop} (hx : QAt w0 b1 o1 x) (hy : QAt w0 b2 o2 y) (h : J10 b1 o1 b2 o2 x y w0 listed a w) (hr : 40 ∈ Region.ready .any O10 listed) :
    wpOp Yba.prog O10 Q' 40 (fun a' w' => J10 b1 o1 b2 o2 x y w0 (listed.setIfInBounds 40 true) a' w') a w := by
  have v44 : a.tmps.getD 44 undef = .pointer (some ⟨b1, o1, none⟩) := h.vals 39 (by omega) (dep_of hr 39 (o := O10.getD 40 default) rfl rfl)
  refine stepV h (o := O10.getD 40 default) (by omega) rfl rfl rfl ?_
  conv => lhs; arg 2; arg 2; whnf
  show _ = Result.ok (Next.value (.pointer (some ⟨b1, o1 + 12, none⟩))) w
  clear hr h hx hy
  go_simp

theorem s10_41 {Q' : Exit → Act → World → Prop} (hx : QAt w0 b1 o1 x) (hy : QAt w0 b2 o2 y) (h : J10 b1 o1 b2 o2 x y w0 listed a w) (hr : 41 ∈ Region.ready .any O10 listed) :
    wpOp Yba.prog O10 Q' 41 (fun a' w' => J10 b1 o1 b2 o2 x y w0 (listed.setIfInBounds 41 true) a' w') a w := by
  have v45 : a.tmps.getD 45 undef = .pointer (some ⟨b1, o1 + 12, none⟩) := h.vals 40 (by omega) (dep_of hr 40 (o := O10.getD 41 default) rfl rfl)
  have c12 : w.cell? ⟨b1, o1 + 12, none⟩ = some (.int .i8 x.md) := cell_keeps h.laid.below (hx 12 (by omega))
  refine stepV h (o := O10.getD 41 default) (by omega) rfl rfl rfl ?_
  conv => lhs; arg 2; arg 2; whnf
  show _ = Result.ok (Next.value (.int .i8 x.md)) w
  clear hr h hx hy
  go_simp

theorem s10_42 {Q' : Exit → Act → World → Prop} (hx : QAt w0 b1 o1 x) (hy : QAt w0 b2 o2 y) (h : J10 b1 o1 b2 o2 x y w0 listed a w) (hr : 42 ∈ Region.ready .any O10 listed) :
    wpOp Yba.prog O10 Q' 42 (fun a' w' => J10 b1 o1 b2 o2 x y w0 (listed.setIfInBounds 42 true) a' w') a w := by
  have v1 := h.p1
  refine stepV h (o := O10.getD 42 default) (by omega) rfl rfl rfl ?_
  conv => lhs; arg 2; arg 2; whnf
  show _ = Result.ok (Next.value (.pointer (some ⟨b2, o2, none⟩))) w
  clear hr h hx hy
  go_simp

theorem s10_43 {Q' : Exit → Act → World → Prop} (hx : QAt w0 b1 o1 x) (hy : QAt w0 b2 o2 y) (h : J10 b1 o1 b2 o2 x y w0 listed a w) (hr : 43 ∈ Region.ready .any O10 listed) :
    wpOp Yba.prog O10 Q' 43 (fun a' w' => J10 b1 o1 b2 o2 x y w0 (listed.setIfInBounds 43 true) a' w') a w := by
  have v47 : a.tmps.getD 47 undef = .pointer (some ⟨b2, o2, none⟩) := h.vals 42 (by omega) (dep_of hr 42 (o := O10.getD 43 default) rfl rfl)
  refine stepV h (o := O10.getD 43 default) (by omega) rfl rfl rfl ?_
  conv => lhs; arg 2; arg 2; whnf
  show _ = Result.ok (Next.value (.pointer (some ⟨b2, o2, none⟩))) w
  clear hr h hx hy
  go_simp

theorem s10_44 {Q' : Exit → Act → World → Prop} (hx : QAt w0 b1 o1 x) (hy : QAt w0 b2 o2 y) (h : J10 b1 o1 b2 o2 x y w0 listed a w) (hr : 44 ∈ Region.ready .any O10 listed) :
    wpOp Yba.prog O10 Q' 44 (fun a' w' => J10 b1 o1 b2 o2 x y w0 (listed.setIfInBounds 44 true) a' w') a w := by
  have v48 : a.tmps.getD 48 undef = .pointer (some ⟨b2, o2, none⟩) := h.vals 43 (by omega) (dep_of hr 43 (o := O10.getD 44 default) rfl rfl)
  refine stepV h (o := O10.getD 44 default) (by omega) rfl rfl rfl ?_
  conv => lhs; arg 2; arg 2; whnf
  show _ = Result.ok (Next.value (.pointer (some ⟨b2, o2 + 12, none⟩))) w
  clear hr h hx hy
  go_simp

theorem s10_45 {Q' : Exit → Act → World → Prop} (hx : QAt w0 b1 o1 x) (hy : QAt w0 b2 o2 y) (h : J10 b1 o1 b2 o2 x y w0 listed a w) (hr : 45 ∈ Region.ready .any O10 listed) :
    wpOp Yba.prog O10 Q' 45 (fun a' w' => J10 b1 o1 b2 o2 x y w0 (listed.setIfInBounds 45 true) a' w') a w := by
  have v49 : a.tmps.getD 49 undef = .pointer (some ⟨b2, o2 + 12, none⟩) := h.vals 44 (by omega) (dep_of hr 44 (o := O10.getD 45 default) rfl rfl)
  have c12 : w.cell? ⟨b2, o2 + 12, none⟩ = some (.int .i8 y.md) := cell_keeps h.laid.below (hy 12 (by omega))
  refine stepV h (o := O10.getD 45 default) (by omega) rfl rfl rfl ?_
  conv => lhs; arg 2; arg 2; whnf
  show _ = Result.ok (Next.value (.int .i8 y.md)) w
  clear hr h hx hy
  go_simp

theorem s10_46 {Q' : Exit → Act → World → Prop} (hx : QAt w0 b1 o1 x) (hy : QAt w0 b2 o2 y) (h : J10 b1 o1 b2 o2 x y w0 listed a w) (hr : 46 ∈ Region.ready .any O10 listed) :
    wpOp Yba.prog O10 Q' 46 (fun a' w' => J10 b1 o1 b2 o2 x y w0 (listed.setIfInBounds 46 true) a' w') a w := by
  have v46 : a.tmps.getD 46 undef = .int .i8 x.md := h.vals 41 (by omega) (dep_of hr 41 (o := O10.getD 46 default) rfl rfl)
  have v50 : a.tmps.getD 50 undef = .int .i8 y.md := h.vals 45 (by omega) (dep_of hr 45 (o := O10.getD 46 default) rfl rfl)
  refine stepC (f := 35) (args := #[.int .i8 x.md, .int .i8 y.md]) h (o := O10.getD 46 default) (by omega) rfl rfl rfl ?_ (laid_same (compare35_any _ _ _))
  conv => lhs; arg 2; arg 2; whnf
  clear hr h hx hy
  go_simp

theorem s10_47 {Q' : Exit → Act → World → Prop} (hx : QAt w0 b1 o1 x) (hy : QAt w0 b2 o2 y) (h : J10 b1 o1 b2 o2 x y w0 listed a w) (hr : 47 ∈ Region.ready .any O10 listed) :
    wpOp Yba.prog O10 Q' 47 (fun a' w' => J10 b1 o1 b2 o2 x y w0 (listed.setIfInBounds 47 true) a' w') a w := by
  have v0 := h.p0
  refine stepV h (o := O10.getD 47 default) (by omega) rfl rfl rfl ?_
  conv => lhs; arg 2; arg 2; whnf
  show _ = Result.ok (Next.value (.pointer (some ⟨b1, o1, none⟩))) w
  clear hr h hx hy
  go_simp

theorem s10_48 {Q' : Exit → Act → World → Prop} (hx : QAt w0 b1 o1 x) (hy : QAt w0 b2 o2 y) (h : J10 b1 o1 b2 o2 x y w0 listed a w) (hr : 48 ∈ Region.ready .any O10 listed) :
    wpOp Yba.prog O10 Q' 48 (fun a' w' => J10 b1 o1 b2 o2 x y w0 (listed.setIfInBounds 48 true) a' w') a w := by
  have v52 : a.tmps.getD 52 undef = .pointer (some ⟨b1, o1, none⟩) := h.vals 47 (by omega) (dep_of hr 47 (o := O10.getD 48 default) rfl rfl)
  refine stepV h (o := O10.getD 48 default) (by omega) rfl rfl rfl ?_
  conv => lhs; arg 2; arg 2; whnf
  show _ = Result.ok (Next.value (.pointer (some ⟨b1, o1, none⟩))) w
  clear hr h hx hy
  go_simp

theorem s10_49 {Q' : Exit → Act → World → Prop} (hx : QAt w0 b1 o1 x) (hy : QAt w0 b2 o2 y) (h : J10 b1 o1 b2 o2 x y w0 listed a w) (hr : 49 ∈ Region.ready .any O10 listed) :
    wpOp Yba.prog O10 Q' 49 (fun a' w' => J10 b1 o1 b2 o2 x y w0 (listed.setIfInBounds 49 true) a' w') a w := by
  have v53 : a.tmps.getD 53 undef = .pointer (some ⟨b1, o1, none⟩) := h.vals 48 (by omega) (dep_of hr 48 (o := O10.getD 49 default) rfl rfl)
  refine stepV h (o := O10.getD 49 default) (by omega) rfl rfl rfl ?_
  conv => lhs; arg 2; arg 2; whnf
  show _ = Result.ok (Next.value (.pointer (some ⟨b1, o1 + 9, none⟩))) w
  clear hr h hx hy
  go_simp

theorem s10_50 {Q' : Exit → Act → World → Prop} (hx : QAt w0 b1 o1 x) (hy : QAt w0 b2 o2 y) (h : J10 b1 o1 b2 o2 x y w0 listed a w) (hr : 50 ∈ Region.ready .any O10 listed) :
    wpOp Yba.prog O10 Q' 50 (fun a' w' => J10 b1 o1 b2 o2 x y w0 (listed.setIfInBounds 50 true) a' w') a w := by
  have v54 : a.tmps.getD 54 undef = .pointer (some ⟨b1, o1 + 9, none⟩) := h.vals 49 (by omega) (dep_of hr 49 (o := O10.getD 50 default) rfl rfl)
  refine stepV h (o := O10.getD 50 default) (by omega) rfl rfl rfl ?_
  conv => lhs; arg 2; arg 2; whnf
  show _ = Result.ok (Next.value (.pointer (some ⟨b1, o1 + 9, none⟩))) w
  clear hr h hx hy
  go_simp

theorem s10_51 {Q' : Exit → Act → World → Prop} (hx : QAt w0 b1 o1 x) (hy : QAt w0 b2 o2 y) (h : J10 b1 o1 b2 o2 x y w0 listed a w) (hr : 51 ∈ Region.ready .any O10 listed) :
    wpOp Yba.prog O10 Q' 51 (fun a' w' => J10 b1 o1 b2 o2 x y w0 (listed.setIfInBounds 51 true) a' w') a w := by
  have v55 : a.tmps.getD 55 undef = .pointer (some ⟨b1, o1 + 9, none⟩) := h.vals 50 (by omega) (dep_of hr 50 (o := O10.getD 51 default) rfl rfl)
  have c9 : w.cell? ⟨b1, o1 + 9, none⟩ = some (.int .i32 x.f0) := cell_keeps h.laid.below (hx 9 (by omega))
  refine stepV h (o := O10.getD 51 default) (by omega) rfl rfl rfl ?_
  conv => lhs; arg 2; arg 2; whnf
  show _ = Result.ok (Next.value (.int .i32 x.f0)) w
  clear hr h hx hy
  go_simp

theorem s10_52 {Q' : Exit → Act → World → Prop} (hx : QAt w0 b1 o1 x) (hy : QAt w0 b2 o2 y) (h : J10 b1 o1 b2 o2 x y w0 listed a w) (hr : 52 ∈ Region.ready .any O10 listed) :
    wpOp Yba.prog O10 Q' 52 (fun a' w' => J10 b1 o1 b2 o2 x y w0 (listed.setIfInBounds 52 true) a' w') a w := by
  have v1 := h.p1
  refine stepV h (o := O10.getD 52 default) (by omega) rfl rfl rfl ?_
  conv => lhs; arg 2; arg 2; whnf
  show _ = Result.ok (Next.value (.pointer (some ⟨b2, o2, none⟩))) w
  clear hr h hx hy
  go_simp

theorem s10_53 {Q' : Exit → Act → World → Prop} (hx : QAt w0 b1 o1 x) (hy : QAt w0 b2 o2 y) (h : J10 b1 o1 b2 o2 x y w0 listed a w) (hr : 53 ∈ Region.ready .any O10 listed) :
    wpOp Yba.prog O10 Q' 53 (fun a' w' => J10 b1 o1 b2 o2 x y w0 (listed.setIfInBounds 53 true) a' w') a w := by
  have v57 : a.tmps.getD 57 undef = .pointer (some ⟨b2, o2, none⟩) := h.vals 52 (by omega) (dep_of hr 52 (o := O10.getD 53 default) rfl rfl)
  refine stepV h (o := O10.getD 53 default) (by omega) rfl rfl rfl ?_
  conv => lhs; arg 2; arg 2; whnf
  show _ = Result.ok (Next.value (.pointer (some ⟨b2, o2, none⟩))) w
  clear hr h hx hy
  go_simp

theorem s10_54 {Q' : Exit → Act → World → Prop} (hx : QAt w0 b1 o1 x) (hy : QAt w0 b2 o2 y) (h : J10 b1 o1 b2 o2 x y w0 listed a w) (hr : 54 ∈ Region.ready .any O10 listed) :
    wpOp Yba.prog O10 Q' 54 (fun a' w' => J10 b1 o1 b2 o2 x y w0 (listed.setIfInBounds 54 true) a' w') a w := by
  have v58 : a.tmps.getD 58 undef = .pointer (some ⟨b2, o2, none⟩) := h.vals 53 (by omega) (dep_of hr 53 (o := O10.getD 54 default) rfl rfl)
  refine stepV h (o := O10.getD 54 default) (by omega) rfl rfl rfl ?_
  conv => lhs; arg 2; arg 2; whnf
  show _ = Result.ok (Next.value (.pointer (some ⟨b2, o2 + 9, none⟩))) w
  clear hr h hx hy
  go_simp

theorem s10_55 {Q' : Exit → Act → World → Prop} (hx : QAt w0 b1 o1 x) (hy : QAt w0 b2 o2 y) (h : J10 b1 o1 b2 o2 x y w0 listed a w) (hr : 55 ∈ Region.ready .any O10 listed) :
    wpOp Yba.prog O10 Q' 55 (fun a' w' => J10 b1 o1 b2 o2 x y w0 (listed.setIfInBounds 55 true) a' w') a w := by
  have v59 : a.tmps.getD 59 undef = .pointer (some ⟨b2, o2 + 9, none⟩) := h.vals 54 (by omega) (dep_of hr 54 (o := O10.getD 55 default) rfl rfl)
  refine stepV h (o := O10.getD 55 default) (by omega) rfl rfl rfl ?_
  conv => lhs; arg 2; arg 2; whnf
  show _ = Result.ok (Next.value (.pointer (some ⟨b2, o2 + 9, none⟩))) w
  clear hr h hx hy
  go_simp

theorem s10_56 {Q' : Exit → Act → World → Prop} (hx : QAt w0 b1 o1 x) (hy : QAt w0 b2 o2 y) (h : J10 b1 o1 b2 o2 x y w0 listed a w) (hr : 56 ∈ Region.ready .any O10 listed) :
    wpOp Yba.prog O10 Q' 56 (fun a' w' => J10 b1 o1 b2 o2 x y w0 (listed.setIfInBounds 56 true) a' w') a w := by
  have v60 : a.tmps.getD 60 undef = .pointer (some ⟨b2, o2 + 9, none⟩) := h.vals 55 (by omega) (dep_of hr 55 (o := O10.getD 56 default) rfl rfl)
  have c9 : w.cell? ⟨b2, o2 + 9, none⟩ = some (.int .i32 y.f0) := cell_keeps h.laid.below (hy 9 (by omega))
  refine stepV h (o := O10.getD 56 default) (by omega) rfl rfl rfl ?_
  conv => lhs; arg 2; arg 2; whnf
  show _ = Result.ok (Next.value (.int .i32 y.f0)) w
  clear hr h hx hy
  go_simp

theorem s10_57 {Q' : Exit → Act → World → Prop} (hx : QAt w0 b1 o1 x) (hy : QAt w0 b2 o2 y) (h : J10 b1 o1 b2 o2 x y w0 listed a w) (hr : 57 ∈ Region.ready .any O10 listed) :
    wpOp Yba.prog O10 Q' 57 (fun a' w' => J10 b1 o1 b2 o2 x y w0 (listed.setIfInBounds 57 true) a' w') a w := by
  have v56 : a.tmps.getD 56 undef = .int .i32 x.f0 := h.vals 51 (by omega) (dep_of hr 51 (o := O10.getD 57 default) rfl rfl)
  have v61 : a.tmps.getD 61 undef = .int .i32 y.f0 := h.vals 56 (by omega) (dep_of hr 56 (o := O10.getD 57 default) rfl rfl)
  refine stepC (f := 33) (args := #[.int .i32 x.f0, .int .i32 y.f0]) h (o := O10.getD 57 default) (by omega) rfl rfl rfl ?_ (laid_same (compare33_any _ _ _))
  conv => lhs; arg 2; arg 2; whnf
  clear hr h hx hy
  go_simp

theorem s10_58 {Q' : Exit → Act → World → Prop} (hx : QAt w0 b1 o1 x) (hy : QAt w0 b2 o2 y) (h : J10 b1 o1 b2 o2 x y w0 listed a w) (hr : 58 ∈ Region.ready .any O10 listed) :
    wpOp Yba.prog O10 Q' 58 (fun a' w' => J10 b1 o1 b2 o2 x y w0 (listed.setIfInBounds 58 true) a' w') a w := by
  have v0 := h.p0
  refine stepV h (o := O10.getD 58 default) (by omega) rfl rfl rfl ?_
  conv => lhs; arg 2; arg 2; whnf
  show _ = Result.ok (Next.value (.pointer (some ⟨b1, o1, none⟩))) w
  clear hr h hx hy
  go_simp

theorem s10_59 {Q' : Exit → Act → World → Prop} (hx : QAt w0 b1 o1 x) (hy : QAt w0 b2 o2 y) (h : J10 b1 o1 b2 o2 x y w0 listed a w) (hr : 59 ∈ Region.ready .any O10 listed) :
    wpOp Yba.prog O10 Q' 59 (fun a' w' => J10 b1 o1 b2 o2 x y w0 (listed.setIfInBounds 59 true) a' w') a w := by
  have v63 : a.tmps.getD 63 undef = .pointer (some ⟨b1, o1, none⟩) := h.vals 58 (by omega) (dep_of hr 58 (o := O10.getD 59 default) rfl rfl)
  refine stepV h (o := O10.getD 59 default) (by omega) rfl rfl rfl ?_
  conv => lhs; arg 2; arg 2; whnf
  show _ = Result.ok (Next.value (.pointer (some ⟨b1, o1, none⟩))) w
  clear hr h hx hy
  go_simp

theorem s10_60 {Q' : Exit → Act → World → Prop} (hx : QAt w0 b1 o1 x) (hy : QAt w0 b2 o2 y) (h : J10 b1 o1 b2 o2 x y w0 listed a w) (hr : 60 ∈ Region.ready .any O10 listed) :
    wpOp Yba.prog O10 Q' 60 (fun a' w' => J10 b1 o1 b2 o2 x y w0 (listed.setIfInBounds 60 true) a' w') a w := by
  have v64 : a.tmps.getD 64 undef = .pointer (some ⟨b1, o1, none⟩) := h.vals 59 (by omega) (dep_of hr 59 (o := O10.getD 60 default) rfl rfl)
  refine stepV h (o := O10.getD 60 default) (by omega) rfl rfl rfl ?_
  conv => lhs; arg 2; arg 2; whnf
  show _ = Result.ok (Next.value (.pointer (some ⟨b1, o1 + 9, none⟩))) w
  clear hr h hx hy
  go_simp

theorem s10_61 {Q' : Exit → Act → World → Prop} (hx : QAt w0 b1 o1 x) (hy : QAt w0 b2 o2 y) (h : J10 b1 o1 b2 o2 x y w0 listed a w) (hr : 61 ∈ Region.ready .any O10 listed) :
    wpOp Yba.prog O10 Q' 61 (fun a' w' => J10 b1 o1 b2 o2 x y w0 (listed.setIfInBounds 61 true) a' w') a w := by
  have v65 : a.tmps.getD 65 undef = .pointer (some ⟨b1, o1 + 9, none⟩) := h.vals 60 (by omega) (dep_of hr 60 (o := O10.getD 61 default) rfl rfl)
  refine stepV h (o := O10.getD 61 default) (by omega) rfl rfl rfl ?_
  conv => lhs; arg 2; arg 2; whnf
  show _ = Result.ok (Next.value (.pointer (some ⟨b1, o1 + 10, none⟩))) w
  clear hr h hx hy
  go_simp

theorem s10_62 {Q' : Exit → Act → World → Prop} (hx : QAt w0 b1 o1 x) (hy : QAt w0 b2 o2 y) (h : J10 b1 o1 b2 o2 x y w0 listed a w) (hr : 62 ∈ Region.ready .any O10 listed) :
    wpOp Yba.prog O10 Q' 62 (fun a' w' => J10 b1 o1 b2 o2 x y w0 (listed.setIfInBounds 62 true) a' w') a w := by
  have v66 : a.tmps.getD 66 undef = .pointer (some ⟨b1, o1 + 10, none⟩) := h.vals 61 (by omega) (dep_of hr 61 (o := O10.getD 62 default) rfl rfl)
  have c10 : w.cell? ⟨b1, o1 + 10, none⟩ = some (.int .i32 x.f1) := cell_keeps h.laid.below (hx 10 (by omega))
  refine stepV h (o := O10.getD 62 default) (by omega) rfl rfl rfl ?_
  conv => lhs; arg 2; arg 2; whnf
  show _ = Result.ok (Next.value (.int .i32 x.f1)) w
  clear hr h hx hy
  go_simp

theorem s10_63 {Q' : Exit → Act → World → Prop} (hx : QAt w0 b1 o1 x) (hy : QAt w0 b2 o2 y) (h : J10 b1 o1 b2 o2 x y w0 listed a w) (hr : 63 ∈ Region.ready .any O10 listed) :
    wpOp Yba.prog O10 Q' 63 (fun a' w' => J10 b1 o1 b2 o2 x y w0 (listed.setIfInBounds 63 true) a' w') a w := by
  have v1 := h.p1
  refine stepV h (o := O10.getD 63 default) (by omega) rfl rfl rfl ?_
  conv => lhs; arg 2; arg 2; whnf
  show _ = Result.ok (Next.value (.pointer (some ⟨b2, o2, none⟩))) w
  clear hr h hx hy
  go_simp

theorem s10_64 {Q' : Exit → Act → World → Prop} (hx : QAt w0 b1 o1 x) (hy : QAt w0 b2 o2 y) (h : J10 b1 o1 b2 o2 x y w0 listed a w) (hr : 64 ∈ Region.ready .any O10 listed) :
    wpOp Yba.prog O10 Q' 64 (fun a' w' => J10 b1 o1 b2 o2 x y w0 (listed.setIfInBounds 64 true) a' w') a w := by
  have v68 : a.tmps.getD 68 undef = .pointer (some ⟨b2, o2, none⟩) := h.vals 63 (by omega) (dep_of hr 63 (o := O10.getD 64 default) rfl rfl)
  refine stepV h (o := O10.getD 64 default) (by omega) rfl rfl rfl ?_
  conv => lhs; arg 2; arg 2; whnf
  show _ = Result.ok (Next.value (.pointer (some ⟨b2, o2, none⟩))) w
  clear hr h hx hy
  go_simp

theorem s10_65 {Q' : Exit → Act → World → Prop} (hx : QAt w0 b1 o1 x) (hy : QAt w0 b2 o2 y) (h : J10 b1 o1 b2 o2 x y w0 listed a w) (hr : 65 ∈ Region.ready .any O10 listed) :
    wpOp Yba.prog O10 Q' 65 (fun a' w' => J10 b1 o1 b2 o2 x y w0 (listed.setIfInBounds 65 true) a' w') a w := by
  have v69 : a.tmps.getD 69 undef = .pointer (some ⟨b2, o2, none⟩) := h.vals 64 (by omega) (dep_of hr 64 (o := O10.getD 65 default) rfl rfl)
  refine stepV h (o := O10.getD 65 default) (by omega) rfl rfl rfl ?_
  conv => lhs; arg 2; arg 2; whnf
  show _ = Result.ok (Next.value (.pointer (some ⟨b2, o2 + 9, none⟩))) w
  clear hr h hx hy
  go_simp

theorem s10_66 {Q' : Exit → Act → World → Prop} (hx : QAt w0 b1 o1 x) (hy : QAt w0 b2 o2 y) (h : J10 b1 o1 b2 o2 x y w0 listed a w) (hr : 66 ∈ Region.ready .any O10 listed) :
    wpOp Yba.prog O10 Q' 66 (fun a' w' => J10 b1 o1 b2 o2 x y w0 (listed.setIfInBounds 66 true) a' w') a w := by
  have v70 : a.tmps.getD 70 undef = .pointer (some ⟨b2, o2 + 9, none⟩) := h.vals 65 (by omega) (dep_of hr 65 (o := O10.getD 66 default) rfl rfl)
  refine stepV h (o := O10.getD 66 default) (by omega) rfl rfl rfl ?_
  conv => lhs; arg 2; arg 2; whnf
  show _ = Result.ok (Next.value (.pointer (some ⟨b2, o2 + 10, none⟩))) w
  clear hr h hx hy
  go_simp

theorem s10_67 {Q' : Exit → Act → World → Prop} (hx : QAt w0 b1 o1 x) (hy : QAt w0 b2 o2 y) (h : J10 b1 o1 b2 o2 x y w0 listed a w) (hr : 67 ∈ Region.ready .any O10 listed) :
    wpOp Yba.prog O10 Q' 67 (fun a' w' => J10 b1 o1 b2 o2 x y w0 (listed.setIfInBounds 67 true) a' w') a w := by
  have v71 : a.tmps.getD 71 undef = .pointer (some ⟨b2, o2 + 10, none⟩) := h.vals 66 (by omega) (dep_of hr 66 (o := O10.getD 67 default) rfl rfl)
  have c10 : w.cell? ⟨b2, o2 + 10, none⟩ = some (.int .i32 y.f1) := cell_keeps h.laid.below (hy 10 (by omega))
  refine stepV h (o := O10.getD 67 default) (by omega) rfl rfl rfl ?_
  conv => lhs; arg 2; arg 2; whnf
  show _ = Result.ok (Next.value (.int .i32 y.f1)) w
  clear hr h hx hy
  go_simp

theorem s10_68 {Q' : Exit → Act → World → Prop} (hx : QAt w0 b1 o1 x) (hy : QAt w0 b2 o2 y) (h : J10 b1 o1 b2 o2 x y w0 listed a w) (hr : 68 ∈ Region.ready .any O10 listed) :
    wpOp Yba.prog O10 Q' 68 (fun a' w' => J10 b1 o1 b2 o2 x y w0 (listed.setIfInBounds 68 true) a' w') a w := by
  have v67 : a.tmps.getD 67 undef = .int .i32 x.f1 := h.vals 62 (by omega) (dep_of hr 62 (o := O10.getD 68 default) rfl rfl)
  have v72 : a.tmps.getD 72 undef = .int .i32 y.f1 := h.vals 67 (by omega) (dep_of hr 67 (o := O10.getD 68 default) rfl rfl)
  refine stepC (f := 33) (args := #[.int .i32 x.f1, .int .i32 y.f1]) h (o := O10.getD 68 default) (by omega) rfl rfl rfl ?_ (laid_same (compare33_any _ _ _))
  conv => lhs; arg 2; arg 2; whnf
  clear hr h hx hy
  go_simp

theorem s10_69 {Q' : Exit → Act → World → Prop} (hx : QAt w0 b1 o1 x) (hy : QAt w0 b2 o2 y) (h : J10 b1 o1 b2 o2 x y w0 listed a w) (hr : 69 ∈ Region.ready .any O10 listed) :
    wpOp Yba.prog O10 Q' 69 (fun a' w' => J10 b1 o1 b2 o2 x y w0 (listed.setIfInBounds 69 true) a' w') a w := by
  have v0 := h.p0
  refine stepV h (o := O10.getD 69 default) (by omega) rfl rfl rfl ?_
  conv => lhs; arg 2; arg 2; whnf
  show _ = Result.ok (Next.value (.pointer (some ⟨b1, o1, none⟩))) w
  clear hr h hx hy
  go_simp

theorem s10_70 {Q' : Exit → Act → World → Prop} (hx : QAt w0 b1 o1 x) (hy : QAt w0 b2 o2 y) (h : J10 b1 o1 b2 o2 x y w0 listed a w) (hr : 70 ∈ Region.ready .any O10 listed) :
    wpOp Yba.prog O10 Q' 70 (fun a' w' => J10 b1 o1 b2 o2 x y w0 (listed.setIfInBounds 70 true) a' w') a w := by
  have v74 : a.tmps.getD 74 undef = .pointer (some ⟨b1, o1, none⟩) := h.vals 69 (by omega) (dep_of hr 69 (o := O10.getD 70 default) rfl rfl)
  refine stepV h (o := O10.getD 70 default) (by omega) rfl rfl rfl ?_
  conv => lhs; arg 2; arg 2; whnf
  show _ = Result.ok (Next.value (.pointer (some ⟨b1, o1, none⟩))) w
  clear hr h hx hy
  go_simp

theorem s10_71 {Q' : Exit → Act → World → Prop} (hx : QAt w0 b1 o1 x) (hy : QAt w0 b2 o2 y) (h : J10 b1 o1 b2 o2 x y w0 listed a w) (hr : 71 ∈ Region.ready .any O10 listed) :
    wpOp Yba.prog O10 Q' 71 (fun a' w' => J10 b1 o1 b2 o2 x y w0 (listed.setIfInBounds 71 true) a' w') a w := by
  have v75 : a.tmps.getD 75 undef = .pointer (some ⟨b1, o1, none⟩) := h.vals 70 (by omega) (dep_of hr 70 (o := O10.getD 71 default) rfl rfl)
  refine stepV h (o := O10.getD 71 default) (by omega) rfl rfl rfl ?_
  conv => lhs; arg 2; arg 2; whnf
  show _ = Result.ok (Next.value (.pointer (some ⟨b1, o1, none⟩))) w
  clear hr h hx hy
  go_simp

theorem s10_72 {Q' : Exit → Act → World → Prop} (hx : QAt w0 b1 o1 x) (hy : QAt w0 b2 o2 y) (h : J10 b1 o1 b2 o2 x y w0 listed a w) (hr : 72 ∈ Region.ready .any O10 listed) :
    wpOp Yba.prog O10 Q' 72 (fun a' w' => J10 b1 o1 b2 o2 x y w0 (listed.setIfInBounds 72 true) a' w') a w := by
  have v76 : a.tmps.getD 76 undef = .pointer (some ⟨b1, o1, none⟩) := h.vals 71 (by omega) (dep_of hr 71 (o := O10.getD 72 default) rfl rfl)
  refine stepV h (o := O10.getD 72 default) (by omega) rfl rfl rfl ?_
  conv => lhs; arg 2; arg 2; whnf
  show _ = Result.ok (Next.value (.pointer (some ⟨b1, o1 + 1, none⟩))) w
  clear hr h hx hy
  go_simp

theorem s10_73 {Q' : Exit → Act → World → Prop} (hx : QAt w0 b1 o1 x) (hy : QAt w0 b2 o2 y) (h : J10 b1 o1 b2 o2 x y w0 listed a w) (hr : 73 ∈ Region.ready .any O10 listed) :
    wpOp Yba.prog O10 Q' 73 (fun a' w' => J10 b1 o1 b2 o2 x y w0 (listed.setIfInBounds 73 true) a' w') a w := by
  have v77 : a.tmps.getD 77 undef = .pointer (some ⟨b1, o1 + 1, none⟩) := h.vals 72 (by omega) (dep_of hr 72 (o := O10.getD 73 default) rfl rfl)
  have c1 : w.cell? ⟨b1, o1 + 1, none⟩ = some (.int .i32 x.a) := cell_keeps h.laid.below (hx 1 (by omega))
  refine stepV h (o := O10.getD 73 default) (by omega) rfl rfl rfl ?_
  conv => lhs; arg 2; arg 2; whnf
  show _ = Result.ok (Next.value (.int .i32 x.a)) w
  clear hr h hx hy
  go_simp

theorem s10_74 {Q' : Exit → Act → World → Prop} (hx : QAt w0 b1 o1 x) (hy : QAt w0 b2 o2 y) (h : J10 b1 o1 b2 o2 x y w0 listed a w) (hr : 74 ∈ Region.ready .any O10 listed) :
    wpOp Yba.prog O10 Q' 74 (fun a' w' => J10 b1 o1 b2 o2 x y w0 (listed.setIfInBounds 74 true) a' w') a w := by
  have v1 := h.p1
  refine stepV h (o := O10.getD 74 default) (by omega) rfl rfl rfl ?_
  conv => lhs; arg 2; arg 2; whnf
  show _ = Result.ok (Next.value (.pointer (some ⟨b2, o2, none⟩))) w
  clear hr h hx hy
  go_simp

theorem s10_75 {Q' : Exit → Act → World → Prop} (hx : QAt w0 b1 o1 x) (hy : QAt w0 b2 o2 y) (h : J10 b1 o1 b2 o2 x y w0 listed a w) (hr : 75 ∈ Region.ready .any O10 listed) :
    wpOp Yba.prog O10 Q' 75 (fun a' w' => J10 b1 o1 b2 o2 x y w0 (listed.setIfInBounds 75 true) a' w') a w := by
  have v79 : a.tmps.getD 79 undef = .pointer (some ⟨b2, o2, none⟩) := h.vals 74 (by omega) (dep_of hr 74 (o := O10.getD 75 default) rfl rfl)
  refine stepV h (o := O10.getD 75 default) (by omega) rfl rfl rfl ?_
  conv => lhs; arg 2; arg 2; whnf
  show _ = Result.ok (Next.value (.pointer (some ⟨b2, o2, none⟩))) w
  clear hr h hx hy
  go_simp

theorem s10_76 {Q' : Exit → Act → World → Prop} (hx : QAt w0 b1 o1 x) (hy : QAt w0 b2 o2 y) (h : J10 b1 o1 b2 o2 x y w0 listed a w) (hr : 76 ∈ Region.ready .any O10 listed) :
    wpOp Yba.prog O10 Q' 76 (fun a' w' => J10 b1 o1 b2 o2 x y w0 (listed.setIfInBounds 76 true) a' w') a w := by
  have v80 : a.tmps.getD 80 undef = .pointer (some ⟨b2, o2, none⟩) := h.vals 75 (by omega) (dep_of hr 75 (o := O10.getD 76 default) rfl rfl)
  refine stepV h (o := O10.getD 76 default) (by omega) rfl rfl rfl ?_
  conv => lhs; arg 2; arg 2; whnf
  show _ = Result.ok (Next.value (.pointer (some ⟨b2, o2, none⟩))) w
  clear hr h hx hy
  go_simp

theorem s10_77 {Q' : Exit → Act → World → Prop} (hx : QAt w0 b1 o1 x) (hy : QAt w0 b2 o2 y) (h : J10 b1 o1 b2 o2 x y w0 listed a w) (hr : 77 ∈ Region.ready .any O10 listed) :
    wpOp Yba.prog O10 Q' 77 (fun a' w' => J10 b1 o1 b2 o2 x y w0 (listed.setIfInBounds 77 true) a' w') a w := by
  have v81 : a.tmps.getD 81 undef = .pointer (some ⟨b2, o2, none⟩) := h.vals 76 (by omega) (dep_of hr 76 (o := O10.getD 77 default) rfl rfl)
  refine stepV h (o := O10.getD 77 default) (by omega) rfl rfl rfl ?_
  conv => lhs; arg 2; arg 2; whnf
  show _ = Result.ok (Next.value (.pointer (some ⟨b2, o2 + 1, none⟩))) w
  clear hr h hx hy
  go_simp

theorem s10_78 {Q' : Exit → Act → World → Prop} (hx : QAt w0 b1 o1 x) (hy : QAt w0 b2 o2 y) (h : J10 b1 o1 b2 o2 x y w0 listed a w) (hr : 78 ∈ Region.ready .any O10 listed) :
    wpOp Yba.prog O10 Q' 78 (fun a' w' => J10 b1 o1 b2 o2 x y w0 (listed.setIfInBounds 78 true) a' w') a w := by
  have v82 : a.tmps.getD 82 undef = .pointer (some ⟨b2, o2 + 1, none⟩) := h.vals 77 (by omega) (dep_of hr 77 (o := O10.getD 78 default) rfl rfl)
  have c1 : w.cell? ⟨b2, o2 + 1, none⟩ = some (.int .i32 y.a) := cell_keeps h.laid.below (hy 1 (by omega))
  refine stepV h (o := O10.getD 78 default) (by omega) rfl rfl rfl ?_
  conv => lhs; arg 2; arg 2; whnf
  show _ = Result.ok (Next.value (.int .i32 y.a)) w
  clear hr h hx hy
  go_simp

theorem s10_79 {Q' : Exit → Act → World → Prop} (hx : QAt w0 b1 o1 x) (hy : QAt w0 b2 o2 y) (h : J10 b1 o1 b2 o2 x y w0 listed a w) (hr : 79 ∈ Region.ready .any O10 listed) :
    wpOp Yba.prog O10 Q' 79 (fun a' w' => J10 b1 o1 b2 o2 x y w0 (listed.setIfInBounds 79 true) a' w') a w := by
  have v78 : a.tmps.getD 78 undef = .int .i32 x.a := h.vals 73 (by omega) (dep_of hr 73 (o := O10.getD 79 default) rfl rfl)
  have v83 : a.tmps.getD 83 undef = .int .i32 y.a := h.vals 78 (by omega) (dep_of hr 78 (o := O10.getD 79 default) rfl rfl)
  refine stepC (f := 33) (args := #[.int .i32 x.a, .int .i32 y.a]) h (o := O10.getD 79 default) (by omega) rfl rfl rfl ?_ (laid_same (compare33_any _ _ _))
  conv => lhs; arg 2; arg 2; whnf
  clear hr h hx hy
  go_simp

theorem s10_80 {Q' : Exit → Act → World → Prop} (hx : QAt w0 b1 o1 x) (hy : QAt w0 b2 o2 y) (h : J10 b1 o1 b2 o2 x y w0 listed a w) (hr : 80 ∈ Region.ready .any O10 listed) :
    wpOp Yba.prog O10 Q' 80 (fun a' w' => J10 b1 o1 b2 o2 x y w0 (listed.setIfInBounds 80 true) a' w') a w := by
  have v0 := h.p0
  refine stepV h (o := O10.getD 80 default) (by omega) rfl rfl rfl ?_
  conv => lhs; arg 2; arg 2; whnf
  show _ = Result.ok (Next.value (.pointer (some ⟨b1, o1, none⟩))) w
  clear hr h hx hy
  go_simp

theorem s10_81 {Q' : Exit → Act → World → Prop} (hx : QAt w0 b1 o1 x) (hy : QAt w0 b2 o2 y) (h : J10 b1 o1 b2 o2 x y w0 listed a w) (hr : 81 ∈ Region.ready .any O10 listed) :
    wpOp Yba.prog O10 Q' 81 (fun a' w' => J10 b1 o1 b2 o2 x y w0 (listed.setIfInBounds 81 true) a' w') a w := by
  have v85 : a.tmps.getD 85 undef = .pointer (some ⟨b1, o1, none⟩) := h.vals 80 (by omega) (dep_of hr 80 (o := O10.getD 81 default) rfl rfl)
  refine stepV h (o := O10.getD 81 default) (by omega) rfl rfl rfl ?_
  conv => lhs; arg 2; arg 2; whnf
  show _ = Result.ok (Next.value (.pointer (some ⟨b1, o1, none⟩))) w
  clear hr h hx hy
  go_simp

theorem s10_82 {Q' : Exit → Act → World → Prop} (hx : QAt w0 b1 o1 x) (hy : QAt w0 b2 o2 y) (h : J10 b1 o1 b2 o2 x y w0 listed a w) (hr : 82 ∈ Region.ready .any O10 listed) :
    wpOp Yba.prog O10 Q' 82 (fun a' w' => J10 b1 o1 b2 o2 x y w0 (listed.setIfInBounds 82 true) a' w') a w := by
  have v86 : a.tmps.getD 86 undef = .pointer (some ⟨b1, o1, none⟩) := h.vals 81 (by omega) (dep_of hr 81 (o := O10.getD 82 default) rfl rfl)
  refine stepV h (o := O10.getD 82 default) (by omega) rfl rfl rfl ?_
  conv => lhs; arg 2; arg 2; whnf
  show _ = Result.ok (Next.value (.pointer (some ⟨b1, o1, none⟩))) w
  clear hr h hx hy
  go_simp

theorem s10_83 {Q' : Exit → Act → World → Prop} (hx : QAt w0 b1 o1 x) (hy : QAt w0 b2 o2 y) (h : J10 b1 o1 b2 o2 x y w0 listed a w) (hr : 83 ∈ Region.ready .any O10 listed) :
    wpOp Yba.prog O10 Q' 83 (fun a' w' => J10 b1 o1 b2 o2 x y w0 (listed.setIfInBounds 83 true) a' w') a w := by
  have v87 : a.tmps.getD 87 undef = .pointer (some ⟨b1, o1, none⟩) := h.vals 82 (by omega) (dep_of hr 82 (o := O10.getD 83 default) rfl rfl)
  refine stepV h (o := O10.getD 83 default) (by omega) rfl rfl rfl ?_
  conv => lhs; arg 2; arg 2; whnf
  show _ = Result.ok (Next.value (.pointer (some ⟨b1, o1 + 2, none⟩))) w
  clear hr h hx hy
  go_simp

theorem s10_84 {Q' : Exit → Act → World → Prop} (hx : QAt w0 b1 o1 x) (hy : QAt w0 b2 o2 y) (h : J10 b1 o1 b2 o2 x y w0 listed a w) (hr : 84 ∈ Region.ready .any O10 listed) :
    wpOp Yba.prog O10 Q' 84 (fun a' w' => J10 b1 o1 b2 o2 x y w0 (listed.setIfInBounds 84 true) a' w') a w := by
  have v88 : a.tmps.getD 88 undef = .pointer (some ⟨b1, o1 + 2, none⟩) := h.vals 83 (by omega) (dep_of hr 83 (o := O10.getD 84 default) rfl rfl)
  have c2 : w.cell? ⟨b1, o1 + 2, none⟩ = some (.int .i32 x.b) := cell_keeps h.laid.below (hx 2 (by omega))
  refine stepV h (o := O10.getD 84 default) (by omega) rfl rfl rfl ?_
  conv => lhs; arg 2; arg 2; whnf
  show _ = Result.ok (Next.value (.int .i32 x.b)) w
  clear hr h hx hy
  go_simp

theorem s10_85 {Q' : Exit → Act → World → Prop} (hx : QAt w0 b1 o1 x) (hy : QAt w0 b2 o2 y) (h : J10 b1 o1 b2 o2 x y w0 listed a w) (hr : 85 ∈ Region.ready .any O10 listed) :
    wpOp Yba.prog O10 Q' 85 (fun a' w' => J10 b1 o1 b2 o2 x y w0 (listed.setIfInBounds 85 true) a' w') a w := by
  have v1 := h.p1
  refine stepV h (o := O10.getD 85 default) (by omega) rfl rfl rfl ?_
  conv => lhs; arg 2; arg 2; whnf
  show _ = Result.ok (Next.value (.pointer (some ⟨b2, o2, none⟩))) w
  clear hr h hx hy
  go_simp

theorem s10_86 {Q' : Exit → Act → World → Prop} (hx : QAt w0 b1 o1 x) (hy : QAt w0 b2 o2 y) (h : J10 b1 o1 b2 o2 x y w0 listed a w) (hr : 86 ∈ Region.ready .any O10 listed) :
    wpOp Yba.prog O10 Q' 86 (fun a' w' => J10 b1 o1 b2 o2 x y w0 (listed.setIfInBounds 86 true) a' w') a w := by
  have v90 : a.tmps.getD 90 undef = .pointer (some ⟨b2, o2, none⟩) := h.vals 85 (by omega) (dep_of hr 85 (o := O10.getD 86 default) rfl rfl)
  refine stepV h (o := O10.getD 86 default) (by omega) rfl rfl rfl ?_
  conv => lhs; arg 2; arg 2; whnf
  show _ = Result.ok (Next.value (.pointer (some ⟨b2, o2, none⟩))) w
  clear hr h hx hy
  go_simp

theorem s10_87 {Q' : Exit → Act → World → Prop} (hx : QAt w0 b1 o1 x) (hy : QAt w0 b2 o2 y) (h : J10 b1 o1 b2 o2 x y w0 listed a w) (hr : 87 ∈ Region.ready .any O10 listed) :
    wpOp Yba.prog O10 Q' 87 (fun a' w' => J10 b1 o1 b2 o2 x y w0 (listed.setIfInBounds 87 true) a' w') a w := by
  have v91 : a.tmps.getD 91 undef = .pointer (some ⟨b2, o2, none⟩) := h.vals 86 (by omega) (dep_of hr 86 (o := O10.getD 87 default) rfl rfl)
  refine stepV h (o := O10.getD 87 default) (by omega) rfl rfl rfl ?_
  conv => lhs; arg 2; arg 2; whnf
  show _ = Result.ok (Next.value (.pointer (some ⟨b2, o2, none⟩))) w
  clear hr h hx hy
  go_simp

theorem s10_88 {Q' : Exit → Act → World → Prop} (hx : QAt w0 b1 o1 x) (hy : QAt w0 b2 o2 y) (h : J10 b1 o1 b2 o2 x y w0 listed a w) (hr : 88 ∈ Region.ready .any O10 listed) :
    wpOp Yba.prog O10 Q' 88 (fun a' w' => J10 b1 o1 b2 o2 x y w0 (listed.setIfInBounds 88 true) a' w') a w := by
  have v92 : a.tmps.getD 92 undef = .pointer (some ⟨b2, o2, none⟩) := h.vals 87 (by omega) (dep_of hr 87 (o := O10.getD 88 default) rfl rfl)
  refine stepV h (o := O10.getD 88 default) (by omega) rfl rfl rfl ?_
  conv => lhs; arg 2; arg 2; whnf
  show _ = Result.ok (Next.value (.pointer (some ⟨b2, o2 + 2, none⟩))) w
  clear hr h hx hy
  go_simp

theorem s10_89 {Q' : Exit → Act → World → Prop} (hx : QAt w0 b1 o1 x) (hy : QAt w0 b2 o2 y) (h : J10 b1 o1 b2 o2 x y w0 listed a w) (hr : 89 ∈ Region.ready .any O10 listed) :
    wpOp Yba.prog O10 Q' 89 (fun a' w' => J10 b1 o1 b2 o2 x y w0 (listed.setIfInBounds 89 true) a' w') a w := by
  have v93 : a.tmps.getD 93 undef = .pointer (some ⟨b2, o2 + 2, none⟩) := h.vals 88 (by omega) (dep_of hr 88 (o := O10.getD 89 default) rfl rfl)
  have c2 : w.cell? ⟨b2, o2 + 2, none⟩ = some (.int .i32 y.b) := cell_keeps h.laid.below (hy 2 (by omega))
  refine stepV h (o := O10.getD 89 default) (by omega) rfl rfl rfl ?_
  conv => lhs; arg 2; arg 2; whnf
  show _ = Result.ok (Next.value (.int .i32 y.b)) w
  clear hr h hx hy
  go_simp

theorem s10_90 {Q' : Exit → Act → World → Prop} (hx : QAt w0 b1 o1 x) (hy : QAt w0 b2 o2 y) (h : J10 b1 o1 b2 o2 x y w0 listed a w) (hr : 90 ∈ Region.ready .any O10 listed) :
    wpOp Yba.prog O10 Q' 90 (fun a' w' => J10 b1 o1 b2 o2 x y w0 (listed.setIfInBounds 90 true) a' w') a w := by
  have v89 : a.tmps.getD 89 undef = .int .i32 x.b := h.vals 84 (by omega) (dep_of hr 84 (o := O10.getD 90 default) rfl rfl)
  have v94 : a.tmps.getD 94 undef = .int .i32 y.b := h.vals 89 (by omega) (dep_of hr 89 (o := O10.getD 90 default) rfl rfl)
  refine stepC (f := 33) (args := #[.int .i32 x.b, .int .i32 y.b]) h (o := O10.getD 90 default) (by omega) rfl rfl rfl ?_ (laid_same (compare33_any _ _ _))
  conv => lhs; arg 2; arg 2; whnf
  clear hr h hx hy
  go_simp

theorem s10_91 {Q' : Exit → Act → World → Prop} (h : J10 b1 o1 b2 o2 x y w0 listed a w) (hr : 91 ∈ Region.ready .any O10 listed) :
    wpOp Yba.prog O10 Q' 91 (fun a' w' => J10 b1 o1 b2 o2 x y w0 (listed.setIfInBounds 91 true) a' w') a w := by
  have v13 : a.tmps.getD 13 undef = .int .i64 (cmp3 x.d0 x.d1 x.d2 y.d0 y.d1 y.d2) := h.vals 8 (by omega) (dep_of hr 8 (o := O10.getD 91 default) rfl rfl)
  have v22 : a.tmps.getD 22 undef = .int .i64 (cmpI (b2i x.ng) (b2i y.ng)) := h.vals 17 (by omega) (dep_of hr 17 (o := O10.getD 91 default) rfl rfl)
  have v31 : a.tmps.getD 31 undef = .int .i64 (cmpI y.depth x.depth) := h.vals 26 (by omega) (dep_of hr 26 (o := O10.getD 91 default) rfl rfl)
  have v42 : a.tmps.getD 42 undef = .int .i64 (cmpI x.kind y.kind) := h.vals 37 (by omega) (dep_of hr 37 (o := O10.getD 91 default) rfl rfl)
  have v51 : a.tmps.getD 51 undef = .int .i64 (cmpI x.md y.md) := h.vals 46 (by omega) (dep_of hr 46 (o := O10.getD 91 default) rfl rfl)
  have v62 : a.tmps.getD 62 undef = .int .i64 (cmpI x.f0 y.f0) := h.vals 57 (by omega) (dep_of hr 57 (o := O10.getD 91 default) rfl rfl)
  have v73 : a.tmps.getD 73 undef = .int .i64 (cmpI x.f1 y.f1) := h.vals 68 (by omega) (dep_of hr 68 (o := O10.getD 91 default) rfl rfl)
  have v84 : a.tmps.getD 84 undef = .int .i64 (cmpI x.a y.a) := h.vals 79 (by omega) (dep_of hr 79 (o := O10.getD 91 default) rfl rfl)
  have v95 : a.tmps.getD 95 undef = .int .i64 (cmpI x.b y.b) := h.vals 90 (by omega) (dep_of hr 90 (o := O10.getD 91 default) rfl rfl)
  have hv : (execOp a.eval (O10.getD 91 default)).run Yba.prog w = .ok (.value (.slice (some ⟨w.heap.size, 0, none⟩) 9 9)) (w.alloc (.cells #[.int .i64 (cmp3 x.d0 x.d1 x.d2 y.d0 y.d1 y.d2), .int .i64 (cmpI (b2i x.ng) (b2i y.ng)), .int .i64 (cmpI y.depth x.depth), .int .i64 (cmpI x.kind y.kind), .int .i64 (cmpI x.md y.md), .int .i64 (cmpI x.f0 y.f0), .int .i64 (cmpI x.f1 y.f1), .int .i64 (cmpI x.a y.a), .int .i64 (cmpI x.b y.b)] 3)) := by
    conv => lhs; arg 2; arg 2; whnf
    clear hr h
    simp only [execOp, List.map_toArray, List.map_cons, List.map_nil, Act.eval, v13, v22, v31, v42, v51, v62, v73, v84, v95]
    clear v13 v22 v31 v42 v51 v62 v73 v84 v95
    go_simp
  clear v13 v22 v31 v42 v51 v62 v73 v84 v95
  unfold wpOp
  rw [show O10[91]? = some (O10.getD 91 default) from rfl]
  simp only [Region.wanted, show (O10.getD 91 default).guard = none from rfl, if_true]
  refine .inl ?_
  unfold Oper.wp
  rw [hv, Oper.upon_value, show (O10.getD 91 default).dst = some 96 from rfl]
  have hl : Laid w (w.alloc (.cells #[.int .i64 (cmp3 x.d0 x.d1 x.d2 y.d0 y.d1 y.d2), .int .i64 (cmpI (b2i x.ng) (b2i y.ng)), .int .i64 (cmpI y.depth x.depth), .int .i64 (cmpI x.kind y.kind), .int .i64 (cmpI x.md y.md), .int .i64 (cmpI x.f0 y.f0), .int .i64 (cmpI x.f1 y.f1), .int .i64 (cmpI x.a y.a), .int .i64 (cmpI x.b y.b)] 3)) := (Laid.refl _).alloc _
  refine ⟨by simpa using h.lsz, by simpa [Act.put] using h.tsz, h.dfs, ?_, ?_, ?_, h.laid.trans hl, ?_, ?_, ?_⟩
  · simp only [Act.put]; rw [getD_put (by omega)]; exact h.p0
  · simp only [Act.put]; rw [getD_put (by omega)]; exact h.p1
  · intro j hj hL
    rw [lst_ne (by omega)] at hL; simp only [Act.put]; rw [getD_put (by omega)]; exact h.vals j hj hL
  · intro _
    refine ⟨w.heap.size, by simp only [Act.put]; rw [getD_put_same (by rw [h.tsz]; omega)], fun k hk => ?_⟩
    rw [World.cell?_alloc_at _ _ _ _ rfl, List.getElem?_toArray]
    rfl
  · intro hL; rw [lst_ne (by omega)] at hL; simp only [Act.put]; rw [getD_put (by omega)]; exact h.ans hL
  · intro hL; rw [lst_ne (by omega)] at hL; simp only [Act.put]; rw [getD_put (by omega)]; exact h.fin hL

theorem s10_92 {Q' : Exit → Act → World → Prop} (h : J10 b1 o1 b2 o2 x y w0 listed a w) (hr : 92 ∈ Region.ready .any O10 listed) :
    wpOp Yba.prog O10 Q' 92 (fun a' w' => J10 b1 o1 b2 o2 x y w0 (listed.setIfInBounds 92 true) a' w') a w := by
  obtain ⟨b, v96, hc⟩ := h.bs (dep_of hr 91 (o := O10.getD 92 default) rfl rfl)
  have hv : (execOp a.eval (O10.getD 92 default)).run Yba.prog w = .ok (.enter 30 #[.slice (some ⟨b, 0, none⟩) 9 9]) w := by
    conv => lhs; arg 2; arg 2; whnf
    clear hr h hc
    go_simp
  unfold wpOp
  rw [show O10[92]? = some (O10.getD 92 default) from rfl]
  simp only [Region.wanted, show (O10.getD 92 default).guard = none from rfl, if_true]
  refine .inl ?_
  unfold Oper.wp
  rw [hv, Oper.upon_enter]
  refine (or9_any b _ _ _ _ _ _ _ _ _ w (hc 0 (by omega)) (hc 1 (by omega)) (hc 2 (by omega)) (hc 3 (by omega)) (hc 4 (by omega)) (hc 5 (by omega)) (hc 6 (by omega)) (hc 7 (by omega)) (hc 8 (by omega))).mono ?_
  rintro e w' ⟨rfl, rfl⟩
  rw [show (O10.getD 92 default).dst = some 97 from rfl]
  refine ⟨by simpa using h.lsz, by simpa [Act.put] using h.tsz, h.dfs, ?_, ?_, ?_, h.laid, ?_, ?_, ?_⟩
  · simp only [Act.put]; rw [getD_put (by omega)]; exact h.p0
  · simp only [Act.put]; rw [getD_put (by omega)]; exact h.p1
  · intro j hj hL
    rw [lst_ne (by omega)] at hL; simp only [Act.put]; rw [getD_put (by omega)]; exact h.vals j hj hL
  · intro hL; rw [lst_ne (by omega)] at hL; simp only [Act.put]; rw [getD_put (by omega)]; exact h.bs hL
  · intro _; simp only [Act.put]; rw [getD_put_same (by rw [h.tsz]; omega)]; rfl
  · intro hL; rw [lst_ne (by omega)] at hL; simp only [Act.put]; rw [getD_put (by omega)]; exact h.fin hL

theorem s10_93 {Q' : Exit → Act → World → Prop} (h : J10 b1 o1 b2 o2 x y w0 listed a w) (hr : 93 ∈ Region.ready .any O10 listed) :
    wpOp Yba.prog O10 Q' 93 (fun a' w' => J10 b1 o1 b2 o2 x y w0 (listed.setIfInBounds 93 true) a' w') a w := by
  have v97 := h.ans (dep_of hr 92 (o := O10.getD 93 default) rfl rfl)
  have hv : (execOp a.eval (O10.getD 93 default)).run Yba.prog w = .ok (.value (.int .i64 (cmpQ x y))) w := by
    conv => lhs; arg 2; arg 2; whnf
    clear hr h
    go_simp
  unfold wpOp
  rw [show O10[93]? = some (O10.getD 93 default) from rfl]
  simp only [Region.wanted, show (O10.getD 93 default).guard = none from rfl, if_true]
  refine .inl ?_
  unfold Oper.wp
  rw [hv, Oper.upon_value, show (O10.getD 93 default).dst = some 4 from rfl]
  refine ⟨by simpa using h.lsz, by simpa [Act.put] using h.tsz, h.dfs, ?_, ?_, ?_, h.laid, ?_, ?_, ?_⟩
  · simp only [Act.put]; rw [getD_put (by omega)]; exact h.p0
  · simp only [Act.put]; rw [getD_put (by omega)]; exact h.p1
  · intro j hj hL
    rw [lst_ne (by omega)] at hL; simp only [Act.put]; rw [getD_put (by omega)]; exact h.vals j hj hL
  · intro hL; rw [lst_ne (by omega)] at hL; simp only [Act.put]; rw [getD_put (by omega)]; exact h.bs hL
  · intro hL; rw [lst_ne (by omega)] at hL; simp only [Act.put]; rw [getD_put (by omega)]; exact h.ans hL
  · intro _; simp only [Act.put]; rw [getD_put_same (by rw [h.tsz]; omega)]


theorem step10 {Q' : Exit → Act → World → Prop} (hx : QAt w0 b1 o1 x) (hy : QAt w0 b2 o2 y) : ∀ (i : Nat), i < 94 → J10 b1 o1 b2 o2 x y w0 listed a w → i ∈ Region.ready .any O10 listed →
    wpOp Yba.prog O10 Q' i (fun a' w' => J10 b1 o1 b2 o2 x y w0 (listed.setIfInBounds i true) a' w') a w
  | 0, _, h, hr => s10_0 hx hy h hr
  | 1, _, h, hr => s10_1 hx hy h hr
  | 2, _, h, hr => s10_2 hx hy h hr
  | 3, _, h, hr => s10_3 hx hy h hr
  | 4, _, h, hr => s10_4 hx hy h hr
  | 5, _, h, hr => s10_5 hx hy h hr
  | 6, _, h, hr => s10_6 hx hy h hr
  | 7, _, h, hr => s10_7 hx hy h hr
  | 8, _, h, hr => s10_8 hx hy h hr
  | 9, _, h, hr => s10_9 hx hy h hr
  | 10, _, h, hr => s10_10 hx hy h hr
  | 11, _, h, hr => s10_11 hx hy h hr
  | 12, _, h, hr => s10_12 hx hy h hr
  | 13, _, h, hr => s10_13 hx hy h hr
  | 14, _, h, hr => s10_14 hx hy h hr
  | 15, _, h, hr => s10_15 hx hy h hr
  | 16, _, h, hr => s10_16 hx hy h hr
  | 17, _, h, hr => s10_17 hx hy h hr
  | 18, _, h, hr => s10_18 hx hy h hr
  | 19, _, h, hr => s10_19 hx hy h hr
  | 20, _, h, hr => s10_20 hx hy h hr
  | 21, _, h, hr => s10_21 hx hy h hr
  | 22, _, h, hr => s10_22 hx hy h hr
  | 23, _, h, hr => s10_23 hx hy h hr
  | 24, _, h, hr => s10_24 hx hy h hr
  | 25, _, h, hr => s10_25 hx hy h hr
  | 26, _, h, hr => s10_26 hx hy h hr
  | 27, _, h, hr => s10_27 hx hy h hr
  | 28, _, h, hr => s10_28 hx hy h hr
  | 29, _, h, hr => s10_29 hx hy h hr
  | 30, _, h, hr => s10_30 hx hy h hr
  | 31, _, h, hr => s10_31 hx hy h hr
  | 32, _, h, hr => s10_32 hx hy h hr
  | 33, _, h, hr => s10_33 hx hy h hr
  | 34, _, h, hr => s10_34 hx hy h hr
  | 35, _, h, hr => s10_35 hx hy h hr
  | 36, _, h, hr => s10_36 hx hy h hr
  | 37, _, h, hr => s10_37 hx hy h hr
  | 38, _, h, hr => s10_38 hx hy h hr
  | 39, _, h, hr => s10_39 hx hy h hr
  | 40, _, h, hr => s10_40 hx hy h hr
  | 41, _, h, hr => s10_41 hx hy h hr
  | 42, _, h, hr => s10_42 hx hy h hr
  | 43, _, h, hr => s10_43 hx hy h hr
  | 44, _, h, hr => s10_44 hx hy h hr
  | 45, _, h, hr => s10_45 hx hy h hr
  | 46, _, h, hr => s10_46 hx hy h hr
  | 47, _, h, hr => s10_47 hx hy h hr
  | 48, _, h, hr => s10_48 hx hy h hr
  | 49, _, h, hr => s10_49 hx hy h hr
  | 50, _, h, hr => s10_50 hx hy h hr
  | 51, _, h, hr => s10_51 hx hy h hr
  | 52, _, h, hr => s10_52 hx hy h hr
  | 53, _, h, hr => s10_53 hx hy h hr
  | 54, _, h, hr => s10_54 hx hy h hr
  | 55, _, h, hr => s10_55 hx hy h hr
  | 56, _, h, hr => s10_56 hx hy h hr
  | 57, _, h, hr => s10_57 hx hy h hr
  | 58, _, h, hr => s10_58 hx hy h hr
  | 59, _, h, hr => s10_59 hx hy h hr
  | 60, _, h, hr => s10_60 hx hy h hr
  | 61, _, h, hr => s10_61 hx hy h hr
  | 62, _, h, hr => s10_62 hx hy h hr
  | 63, _, h, hr => s10_63 hx hy h hr
  | 64, _, h, hr => s10_64 hx hy h hr
  | 65, _, h, hr => s10_65 hx hy h hr
  | 66, _, h, hr => s10_66 hx hy h hr
  | 67, _, h, hr => s10_67 hx hy h hr
  | 68, _, h, hr => s10_68 hx hy h hr
  | 69, _, h, hr => s10_69 hx hy h hr
  | 70, _, h, hr => s10_70 hx hy h hr
  | 71, _, h, hr => s10_71 hx hy h hr
  | 72, _, h, hr => s10_72 hx hy h hr
  | 73, _, h, hr => s10_73 hx hy h hr
  | 74, _, h, hr => s10_74 hx hy h hr
  | 75, _, h, hr => s10_75 hx hy h hr
  | 76, _, h, hr => s10_76 hx hy h hr
  | 77, _, h, hr => s10_77 hx hy h hr
  | 78, _, h, hr => s10_78 hx hy h hr
  | 79, _, h, hr => s10_79 hx hy h hr
  | 80, _, h, hr => s10_80 hx hy h hr
  | 81, _, h, hr => s10_81 hx hy h hr
  | 82, _, h, hr => s10_82 hx hy h hr
  | 83, _, h, hr => s10_83 hx hy h hr
  | 84, _, h, hr => s10_84 hx hy h hr
  | 85, _, h, hr => s10_85 hx hy h hr
  | 86, _, h, hr => s10_86 hx hy h hr
  | 87, _, h, hr => s10_87 hx hy h hr
  | 88, _, h, hr => s10_88 hx hy h hr
  | 89, _, h, hr => s10_89 hx hy h hr
  | 90, _, h, hr => s10_90 hx hy h hr
  | 91, _, h, hr => s10_91 h hr
  | 92, _, h, hr => s10_92 h hr
  | 93, _, h, hr => s10_93 h hr
  | n + 94, h, _, _ => absurd h (by omega)

theorem region10 {Q' : Exit → Act → World → Prop} {a : Act} {w : World} (hx : QAt w b1 o1 x) (hy : QAt w b2 o2 y) (ht : a.tmps.size = 98) (hdf : a.defers = []) (h0 : a.tmps.getD 0 undef = .pointer (some ⟨b1, o1, none⟩)) (h1 : a.tmps.getD 1 undef = .pointer (some ⟨b2, o2, none⟩))
    (hQ : ∀ (a' : Act) (w' : World), a'.tmps.size = 98 → a'.defers = [] → a'.tmps.getD 4 undef = .int .i64 (cmpQ x y) → Laid w w' → Q' .normal a' w') : Code.wp Yba.prog (Code.region 1 O10 true) Q' a w := by
  have e94 : 93 < O10.size := by
    have e : O10.size = 94 := by kernel_rfl
    omega
  refine wp_region_any (by kernel_rfl) (wpAny_inv (J10 b1 o1 b2 o2 x y w) ?_ ?_ ?_ _ _ _ _ ?_ ?_)
  · intro listed a' w' h hr
    exact hQ a' w' h.tsz h.dfs (h.fin (all_listed (by kernel_rfl) (h.lsz.trans (by kernel_rfl)) hr 93 e94)) h.laid
  · intro listed a' w' h
    exact h.lsz.trans (by kernel_rfl)
  · intro listed a' w' i h hr
    have hi : i < 94 := by
      have h1 := (mem_ready.1 hr).1
      rcases Nat.lt_or_ge i 94 with h2 | h2
      · exact h2
      · simp [Array.getElem?_eq_none (show listed.size ≤ i by rw [h.lsz]; exact h2)] at h1
    exact step10 hx hy i hi h hr
  · have e : O10.size = 94 := by kernel_rfl
    have no : ∀ i, (Array.replicate O10.size false).getD i false = false := fun i => by simp [Array.getD_eq_getD_getElem?, Array.getElem?_replicate]; split <;> rfl
    exact ⟨by simp [e], ht, hdf, h0, h1, fun i _ h => absurd ((no i).symm.trans h) (by simp), (Laid.refl w).drew, fun h => absurd ((no 91).symm.trans h) (by simp), fun h => absurd ((no 92).symm.trans h) (by simp), fun h => absurd ((no 93).symm.trans h) (by simp)⟩
  · simp

theorem compareQ_any (b1 o1 b2 o2 : Nat) (x y : Q) (w : World) (hx : QAt w b1 o1 x) (hy : QAt w b2 o2 y) :
    Calls Yba.prog 10 #[.pointer (some ⟨b1, o1, none⟩), .pointer (some ⟨b2, o2, none⟩)] w fun e w' => e = .returned (.int .i64 (cmpQ x y)) ∧ Laid w w' := by
  have HX : Hid _ := hx
  have HY : Hid _ := hy
  clear hx hy
  go_enter Yba.func10, Yba.ntmps10
  go_wp2_with fail
  refine region10 HX.out HY.out rfl rfl rfl rfl ?_
  rintro ⟨t, df⟩ w' h1 h2 h3 h4
  simp only at h1 h2 h3
  subst h2
  have HL : Hid _ := h4
  clear h4
  go_wp2_with fail
  exact bodyPost_ret (v := .int .i64 (cmpQ x y)) (by simp [results, Yba.results10, go_sem] at h3 ⊢; exact h3) rfl ⟨rfl, HL.out⟩

/-- 'zzs0566acmp': two entries by value. -/
theorem acmp_any (x y : Q) (w : World) : Calls Yba.prog 13 #[.agg (encQ x).toArray, .agg (encQ y).toArray] w fun e w' => e = .returned (.int .i64 (cmpQ x y)) ∧ Laid w w' := by
  have key : ∀ w2, w2 = (w.alloc (.cells (encQ x).toArray 77)).alloc (.cells (encQ y).toArray 77) → Calls Yba.prog 10 #[.pointer (some ⟨w.heap.size, 0, none⟩), .pointer (some ⟨w.heap.size + 1, 0, none⟩)] w2 fun e w' => e = .returned (.int .i64 (cmpQ x y)) ∧ Laid w2 w' := by
    rintro w2 rfl
    refine compareQ_any _ _ _ _ x y _ ?_ ?_
    · intro i hi
      rw [World.cell?_alloc_old _ _ _ (by simp), Nat.zero_add, World.cell?_alloc_at _ _ _ _ rfl, List.getElem?_toArray]
    · intro i hi
      rw [Nat.zero_add, World.cell?_alloc_at _ _ _ _ (by simp), List.getElem?_toArray]
  simp only [encQ] at key ⊢
  go_enter Yba.func13, Yba.ntmps13
  go_wp2_with (go_at_call 10; refine (key _ rfl).mono ?_; rintro e w' ⟨rfl, hl⟩)
  go_ret
  exact ⟨rfl, Laid.trans (((Laid.refl _).alloc _).alloc _) hl⟩

end Go.Proofs.Ybulkkru.cst

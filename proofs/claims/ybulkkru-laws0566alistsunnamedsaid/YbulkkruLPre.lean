import Derived.Test.YbulkkruHead
import Derived.Test.YbulkkruInit
import Derived.Test.YbulkkruNamed
import Derived.Test.YbulkkruTracked
namespace Go.Proofs.Ybulkkru.cst
open Go.RowKit Go.Proofs Go.Proofs.Ybulkkru.net
set_option linter.unusedVariables false

/-- Of w's blocks those of bs alone may have turned. -/
structure Kept (w w' : World) (bs : List Nat) : Prop where
  os : w'.os = w.os
  tape : w'.tape = w.tape
  output : w'.output = w.output
  size : w.heap.size ≤ w'.heap.size
  block : ∀ k, k < w.heap.size → k ∉ bs → w'.heap[k]? = w.heap[k]?

theorem Kept.refl (w : World) (bs : List Nat) : Kept w w bs := ⟨rfl, rfl, rfl, Nat.le_refl _, fun _ _ _ => rfl⟩
theorem Kept.of_below {w w' : World} {bs : List Nat} (h : Below w.heap.size w w') : Kept w w' bs := ⟨h.os, h.tape, h.output, h.size, fun k hk _ => h.block k hk⟩
theorem Kept.trans {a b c : World} {bs : List Nat} (h : Kept a b bs) (k : Kept b c bs) : Kept a c bs :=
  ⟨k.os.trans h.os, k.tape.trans h.tape, k.output.trans h.output, Nat.le_trans h.size k.size, fun i hi hn => (k.block i (Nat.lt_of_lt_of_le hi h.size) hn).trans (h.block i hi hn)⟩
theorem Kept.below' {w w' w'' : World} {bs : List Nat} (h : Kept w w' bs) (hb : Below w'.heap.size w' w'') : Kept w w'' bs := h.trans (Kept.of_below hb)
theorem Kept.drew {w w' : World} {bs : List Nat} (h : Kept w w' bs) : Kept w w'.drew bs := ⟨h.os, h.tape, h.output, h.size, h.block⟩
theorem Kept.setCell {w w' : World} {bs : List Nat} (h : Kept w w' bs) {B i : Nat} (hB : B ∈ bs ∨ w.heap.size ≤ B) (v : Value) : Kept w (w'.setCell ⟨B, i, none⟩ v) bs :=
  ⟨h.os, h.tape, h.output, by simpa using h.size, fun k hk hn => by
    rw [setcell_other _ (show k ≠ B from fun e => by subst e; rcases hB with h1 | h1; exact hn h1; omega)]
    exact h.block k hk hn⟩
theorem Kept.grown {w w' w'' : World} {bs : List Nat} {row : Option Nat} (h : Kept w w' bs) (hg : w'.grownBy w'' row) (hr : ∀ g, row = some g → g ∈ bs ∨ w.heap.size ≤ g) : Kept w w'' bs :=
  ⟨hg.os.trans h.os, hg.tape.trans h.tape, hg.output.trans h.output, Nat.le_trans h.size hg.size, fun k hk hn =>
    (hg.block k (Nat.lt_of_lt_of_le hk h.size) (fun e => by rcases hr k e.symm with h1 | h1; exact hn h1; omega)).trans (h.block k hk hn)⟩
theorem Kept.cell {w w' : World} {bs : List Nat} (h : Kept w w' bs) {a : Addr} {v : Value} (hc : w.cell? a = some v) (hn : a.block ∉ bs) : w'.cell? a = some v :=
  (World.cell?_of_block (h.block _ (World.block_lt_of_cell? w a hc) hn)).trans hc
theorem Kept.toBelow {w w' : World} {bs : List Nat} (h : Kept w w' bs) {B : Nat} (hB : ∀ b ∈ bs, B ≤ b) (hs : B ≤ w.heap.size) : Below B w w' :=
  ⟨h.os, h.tape, h.output, h.size, fun k hk => h.block k (by omega) (fun e => by have := hB k e; omega)⟩

/-- A tracked holding: its broker, its block, what it holds. -/
structure Th where
  b : Nat
  H : Nat
  held : Int
  o : Int
  a : Int
  l : Int
deriving Inhabited

def thRow (w : World) (tp : Option Addr) (bs : List Nat) (ths : List Th) : Prop :=
  ths.length ≠ 0 → ∃ T, tp = some ⟨T, 0, none⟩ ∧ T ∉ bs ∧ ∀ j, j < ths.length → w.cell? ⟨T, j * 2, none⟩ = some (.int .i32 (ths.getD j default).b) ∧ w.cell? ⟨T, j * 2 + 1, none⟩ = some (.pointer (some ⟨(ths.getD j default).H, 0, none⟩))

def offB (ao : Option Addr) (bs : List Nat) : Prop := ∀ a, ao = some a → a.block ∉ bs

theorem RowI.kept {w w' : World} {ao : Option Addr} {zs : List Int} {bs : List Nat} (h : RowI w ao zs) (hk : Kept w w' bs) (ho : offB ao bs) : RowI w' ao zs := by
  intro hz
  obtain ⟨b, o, e, hc⟩ := h hz
  exact ⟨b, o, e, fun i hi => hk.cell (hc i hi) (show b ∉ bs from ho _ e)⟩

structure LPre (w : World) (bs : List Nat) (N M Pt Tb Bk mb nB : Nat) (tp : Option Addr) (tcap : Nat) (ths : List Th) (topic pin a0 a1 a2 : Int) (ao co : Option Addr) (oc cc : Nat) (orig cur : List Int) (np : Nat → Nat) : Prop where
  n0 : w.cell? ⟨N, 0, none⟩ = some (.slice (some ⟨Pt, 0, none⟩) 1 1)
  n1 : w.cell? ⟨N, 1, none⟩ = some (.slice (some ⟨Bk, 0, none⟩) nB nB)
  n2 : w.cell? ⟨N, 2, none⟩ = some (.slice none 0 0)
  n3 : w.cell? ⟨N, 3, none⟩ = some (.map (some mb))
  n5 : w.cell? ⟨N, 5, none⟩ = some (.slice (some ⟨Tb, 0, none⟩) 1 1)
  n20 : w.cell? ⟨N, 20, none⟩ = some (.int .i64 0)
  m0 : w.cell? ⟨M, 0, none⟩ = some (.int .i32 0)
  m1 : w.cell? ⟨M, 1, none⟩ = some (.int .i32 0)
  m2 : w.cell? ⟨M, 2, none⟩ = some (.int .i64 a0)
  m3 : w.cell? ⟨M, 3, none⟩ = some (.int .i64 a1)
  m4 : w.cell? ⟨M, 4, none⟩ = some (.int .i64 a2)
  p0 : w.cell? ⟨Pt, 0, none⟩ = some (.int .i32 topic)
  p2 : w.cell? ⟨Pt, 2, none⟩ = some (.slice ao orig.length oc)
  p3 : w.cell? ⟨Pt, 3, none⟩ = some (.slice co cur.length cc)
  p7 : w.cell? ⟨Pt, 7, none⟩ = some (.int .i32 pin)
  ro : RowI w ao orig
  rc : RowI w co cur
  tb : w.cell? ⟨Tb, 0, none⟩ = some (.slice tp ths.length tcap)
  row : thRow w tp bs ths
  hold : ∀ t ∈ ths, HoldAt w t.H t.held t.o t.a t.l ∧ t.H ∉ bs
  mp : MapAt w mb topic (ths.map fun t => ((t.b : Int), t.H))
  dist : ∀ t ∈ ths, ∀ u ∈ ths, t.b = u.b → t = u
  bnd : ∀ t ∈ ths, t.b < nB
  hnB : nB ≤ 8
  hlen : ths.length ≤ 1024
  bro : ∀ b, b < nB → (∃ po c2, w.cell? ⟨Bk, b * 13 + 3, none⟩ = some (.slice po (np b) c2)) ∧ np b ≤ 3
  t32 : Is32 topic
  hol : orig.length ≤ 1024
  hcl : cur.length ≤ 1024
  neN : N ∉ bs
  neM : M ∉ bs
  nePt : Pt ∉ bs
  neTb : Tb ∉ bs
  neBk : Bk ∉ bs
  nemb : mb ∉ bs
  oa : offB ao bs
  ob : offB co bs

theorem LPre.keep {w w' : World} {bs : List Nat} {N M Pt Tb Bk mb nB : Nat} {tp : Option Addr} {tcap : Nat} {ths : List Th} {topic pin a0 a1 a2 : Int} {ao co : Option Addr} {oc cc : Nat} {orig cur : List Int} {np : Nat → Nat}
    (h : LPre w bs N M Pt Tb Bk mb nB tp tcap ths topic pin a0 a1 a2 ao co oc cc orig cur np) (hk : Kept w w' bs) : LPre w' bs N M Pt Tb Bk mb nB tp tcap ths topic pin a0 a1 a2 ao co oc cc orig cur np where
  n0 := hk.cell h.n0 h.neN
  n1 := hk.cell h.n1 h.neN
  n2 := hk.cell h.n2 h.neN
  n3 := hk.cell h.n3 h.neN
  n5 := hk.cell h.n5 h.neN
  n20 := hk.cell h.n20 h.neN
  m0 := hk.cell h.m0 h.neM
  m1 := hk.cell h.m1 h.neM
  m2 := hk.cell h.m2 h.neM
  m3 := hk.cell h.m3 h.neM
  m4 := hk.cell h.m4 h.neM
  p0 := hk.cell h.p0 h.nePt
  p2 := hk.cell h.p2 h.nePt
  p3 := hk.cell h.p3 h.nePt
  p7 := hk.cell h.p7 h.nePt
  ro := h.ro.kept hk h.oa
  rc := h.rc.kept hk h.ob
  tb := hk.cell h.tb h.neTb
  row := fun hz => by
    obtain ⟨T, e, hT, hc⟩ := h.row hz
    exact ⟨T, e, hT, fun j hj => ⟨hk.cell (hc j hj).1 hT, hk.cell (hc j hj).2 hT⟩⟩
  hold := fun t ht => by
    obtain ⟨⟨c0, c1, c2, c3, c4, c5⟩, hH⟩ := h.hold t ht
    exact ⟨⟨hk.cell c0 hH, hk.cell c1 hH, hk.cell c2 hH, hk.cell c3 hH, hk.cell c4 hH, hk.cell c5 hH⟩, hH⟩
  mp := h.mp.of_block (hk.block _ h.mp.lt h.nemb)
  dist := h.dist
  bnd := h.bnd
  hnB := h.hnB
  hlen := h.hlen
  bro := fun b hb => by
    obtain ⟨⟨po, c2, hc⟩, hn⟩ := h.bro b hb
    exact ⟨⟨po, c2, hk.cell hc h.neBk⟩, hn⟩
  t32 := h.t32
  hol := h.hol
  hcl := h.hcl
  neN := h.neN
  neM := h.neM
  nePt := h.nePt
  neTb := h.neTb
  neBk := h.neBk
  nemb := h.nemb
  oa := h.oa
  ob := h.ob

/-- The search's own cells that 'list' does not turn, and those that it does. -/
structure SAt (w : World) (S R M : Nat) (lv qv : Value) (g0 g1 g2 wk : Int) : Prop where
  s2 : w.cell? ⟨S, 2, none⟩ = some qv
  s3 : w.cell? ⟨S, 3, none⟩ = some (.slice (some ⟨R, 0, none⟩) 2 2)
  s4 : w.cell? ⟨S, 4, none⟩ = some lv
  s6 : w.cell? ⟨S, 6, none⟩ = some (.slice (some ⟨M, 0, none⟩) 1 1)
  s7 : w.cell? ⟨S, 7, none⟩ = some (.int .u8 g0)
  s8 : w.cell? ⟨S, 8, none⟩ = some (.int .i32 g1)
  s9 : w.cell? ⟨S, 9, none⟩ = some (.int .i32 g2)
  s10 : w.cell? ⟨S, 10, none⟩ = some (.bool false)
  s15 : w.cell? ⟨S, 15, none⟩ = some (.int .i64 wk)
  fr : ∀ x, w.frozen? ⟨S, x, none⟩ = false

theorem SAt.of_block {w w' : World} {S R M : Nat} {lv qv : Value} {g0 g1 g2 wk : Int} (h : SAt w S R M lv qv g0 g1 g2 wk) (hb : w'.heap[S]? = w.heap[S]?) : SAt w' S R M lv qv g0 g1 g2 wk := by
  have c : ∀ x v, w.cell? ⟨S, x, none⟩ = some v → w'.cell? ⟨S, x, none⟩ = some v := fun x v hv => (World.cell?_of_block (a := ⟨S, x, none⟩) hb).trans hv
  exact ⟨c _ _ h.s2, c _ _ h.s3, c _ _ h.s4, c _ _ h.s6, c _ _ h.s7, c _ _ h.s8, c _ _ h.s9, c _ _ h.s10, c _ _ h.s15, fun x => (World.frozen?_of_block (a := ⟨S, x, none⟩) hb).trans (h.fr x)⟩
theorem SAt.lt {w : World} {S R M : Nat} {lv qv : Value} {g0 g1 g2 wk : Int} (h : SAt w S R M lv qv g0 g1 g2 wk) : S < w.heap.size := World.block_lt_of_cell? _ _ h.s2
theorem SAt.keep {w w' : World} {S R M : Nat} {lv qv : Value} {g0 g1 g2 wk : Int} (h : SAt w S R M lv qv g0 g1 g2 wk) (hb : Below w.heap.size w w') : SAt w' S R M lv qv g0 g1 g2 wk := h.of_block (hb.block _ h.lt)

/-- One run, six cells. -/
structure RunAt (w : World) (R o : Nat) (kd fm bk sp pl en : Int) : Prop where
  c0 : w.cell? ⟨R, o, none⟩ = some (.int .u8 kd)
  c1 : w.cell? ⟨R, o + 1, none⟩ = some (.int .i32 fm)
  c2 : w.cell? ⟨R, o + 2, none⟩ = some (.int .i32 bk)
  c3 : w.cell? ⟨R, o + 3, none⟩ = some (.int .i32 sp)
  c4 : w.cell? ⟨R, o + 4, none⟩ = some (.int .i32 pl)
  c5 : w.cell? ⟨R, o + 5, none⟩ = some (.int .i32 en)
theorem RunAt.of_block {w w' : World} {R o : Nat} {kd fm bk sp pl en : Int} (h : RunAt w R o kd fm bk sp pl en) (hb : w'.heap[R]? = w.heap[R]?) : RunAt w' R o kd fm bk sp pl en := by
  have c : ∀ x v, w.cell? ⟨R, x, none⟩ = some v → w'.cell? ⟨R, x, none⟩ = some v := fun x v hv => (World.cell?_of_block (a := ⟨R, x, none⟩) hb).trans hv
  exact ⟨c _ _ h.c0, c _ _ h.c1, c _ _ h.c2, c _ _ h.c3, c _ _ h.c4, c _ _ h.c5⟩
theorem RunAt.lt {w : World} {R o : Nat} {kd fm bk sp pl en : Int} (h : RunAt w R o kd fm bk sp pl en) : R < w.heap.size := World.block_lt_of_cell? _ _ h.c0
theorem RunAt.keep {w w' : World} {R o : Nat} {kd fm bk sp pl en : Int} (h : RunAt w R o kd fm bk sp pl en) (hb : Below w.heap.size w w') : RunAt w' R o kd fm bk sp pl en := h.of_block (hb.block _ h.lt)

theorem LPre.keyPre {w : World} {bs : List Nat} {N M Pt Tb Bk mb nB : Nat} {tp : Option Addr} {tcap : Nat} {ths : List Th} {topic pin a0 a1 a2 : Int} {ao co : Option Addr} {oc cc : Nat} {orig cur : List Int} {np : Nat → Nat} {S R : Nat} {lv qv : Value} {g0 g1 g2 wk : Int}
    (h : LPre w bs N M Pt Tb Bk mb nB tp tcap ths topic pin a0 a1 a2 ao co oc cc orig cur np) (hs : SAt w S R M lv qv g0 g1 g2 wk) {t : Th} (ht : t ∈ ths) :
    ∃ po c2, KeyPre w S N mb t.H Bk nB t.b (np t.b) c2 po topic t.held t.o t.a t.l g0 g1 g2 := by
  obtain ⟨⟨po, c2, hc⟩, hn⟩ := h.bro t.b (h.bnd t ht)
  refine ⟨po, c2, hs.s7, hs.s8, hs.s9, hs.s10, h.n1, h.n3, h.n20, hc, h.bnd t ht, h.hnB, hn, fun w' hb => ?_, (h.hold t ht).1⟩
  have hm := h.mp.keep hb
  refine hm.lookup h.t32 ?_ ?_ (p := ((t.b : Int), t.H)) (List.mem_map.2 ⟨t, ht, rfl⟩)
  · intro p hp
    obtain ⟨u, hu, rfl⟩ := List.mem_map.1 hp
    have := h.bnd u hu
    have := h.hnB
    exact ⟨by show -2147483648 ≤ (u.b : Int); omega, by show (u.b : Int) ≤ 2147483647; omega⟩
  · intro p hp q hq e
    obtain ⟨u, hu, rfl⟩ := List.mem_map.1 hp
    obtain ⟨v, hv, rfl⟩ := List.mem_map.1 hq
    rw [h.dist u hu v hv (Int.ofNat.inj e)]

/-- What 'list' makes of a tracked holding. -/
def entQ (topic a0 a1 a2 g0 g1 g2 rn dp : Int) (np : Nat → Nat) (t : Th) : Q :=
  ⟨3, topic, t.b, 0, wrap64 (a0 - t.o), wrap64 (a1 - t.a), wrap64 (a2 - t.l), rn, dp, IntKind.i32.wrap t.held, np t.b, nd 3 topic t.b g0 g1 g2, 2⟩

def unnamed (pin : Int) (orig cur : List Int) (t : Th) : Bool := !namedB pin t.b orig cur
def wantL (topic pin a0 a1 a2 g0 g1 g2 rn dp : Int) (np : Nat → Nat) (orig cur : List Int) (ths : List Th) : List Q :=
  (ths.filter (unnamed pin orig cur)).map (entQ topic a0 a1 a2 g0 g1 g2 rn dp np)

end Go.Proofs.Ybulkkru.cst

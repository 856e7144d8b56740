import Derived.Test.YbulkkruPart4
import Derived.Test.YbulkkruClone
namespace Go.Proofs.Ybulkkru.cst
open Go.RowKit Go.Proofs Go.Proofs.Ybulkkru.net
set_option linter.unusedVariables false

/-- The network as the law builds it. -/
structure NetC (w : World) (N Pt Tb Bk Np mb nB : Nat) (tp : Option Addr) (tcap : Nat) (ths : List Th) (topic pin : Int) (vo uo : Option Addr) (vcc ucc : Nat) (orig cur : List Int) (np : Nat → Nat) : Prop where
  n0 : w.cell? ⟨N, 0, none⟩ = some (.slice (some ⟨Pt, 0, none⟩) 1 1)
  n1 : w.cell? ⟨N, 1, none⟩ = some (.slice (some ⟨Bk, 0, none⟩) nB nB)
  n2 : w.cell? ⟨N, 2, none⟩ = some (.slice none 0 0)
  n3 : w.cell? ⟨N, 3, none⟩ = some (.map (some mb))
  n5 : w.cell? ⟨N, 5, none⟩ = some (.slice (some ⟨Tb, 0, none⟩) 1 1)
  n20 : w.cell? ⟨N, 20, none⟩ = some (.int .i64 0)
  p0 : w.cell? ⟨Pt, 0, none⟩ = some (.int .i32 topic)
  p2 : w.cell? ⟨Pt, 2, none⟩ = some (.slice vo orig.length vcc)
  p3 : w.cell? ⟨Pt, 3, none⟩ = some (.slice uo cur.length ucc)
  p7 : w.cell? ⟨Pt, 7, none⟩ = some (.int .i32 pin)
  ro : RowI w vo orig
  rc : RowI w uo cur
  tb : w.cell? ⟨Tb, 0, none⟩ = some (.slice tp ths.length tcap)
  row : thRow w tp [] ths
  hold : ∀ t ∈ ths, HoldAt w t.H t.held t.o t.a t.l
  mp : MapAt w mb topic (ths.map fun t => ((t.b : Int), t.H))
  dist : ∀ t ∈ ths, ∀ u ∈ ths, t.b = u.b → t = u
  bnd : ∀ t ∈ ths, t.b < nB
  hnB : nB ≤ 8
  hlen : ths.length ≤ 1024
  bro : ∀ b, b < nB → ∃ po c2, w.cell? ⟨Bk, b * 13 + 3, none⟩ = some (.slice po (np b) c2)
  npc : ∀ b, b < nB → w.cell? ⟨Np, b, none⟩ = some (.int .i32 (np b))
  hnB0 : 0 < nB
  np3 : ∀ b, np b ≤ 3
  t32 : Is32 topic
  hol : orig.length ≤ 1024
  hcl : cur.length ≤ 1024
  vb : ∀ a, vo = some a → a.block < w.heap.size
  ub : ∀ a, uo = some a → a.block < w.heap.size

theorem NetC.keep {w w' : World} {N Pt Tb Bk Np mb nB : Nat} {tp : Option Addr} {tcap : Nat} {ths : List Th} {topic pin : Int} {vo uo : Option Addr} {vcc ucc : Nat} {orig cur : List Int} {np : Nat → Nat} (h : NetC w N Pt Tb Bk Np mb nB tp tcap ths topic pin vo uo vcc ucc orig cur np) (hb : Below w.heap.size w w') : NetC w' N Pt Tb Bk Np mb nB tp tcap ths topic pin vo uo vcc ucc orig cur np where
  n0 := cell_keeps hb h.n0
  n1 := cell_keeps hb h.n1
  n2 := cell_keeps hb h.n2
  n3 := cell_keeps hb h.n3
  n5 := cell_keeps hb h.n5
  n20 := cell_keeps hb h.n20
  p0 := cell_keeps hb h.p0
  p2 := cell_keeps hb h.p2
  p3 := cell_keeps hb h.p3
  p7 := cell_keeps hb h.p7
  ro := h.ro.keep hb
  rc := h.rc.keep hb
  tb := cell_keeps hb h.tb
  row := fun hz => by
    obtain ⟨T, e, hT, hc⟩ := h.row hz
    exact ⟨T, e, hT, fun j hj => ⟨cell_keeps hb (hc j hj).1, cell_keeps hb (hc j hj).2⟩⟩
  hold := fun t ht => (h.hold t ht).keep hb
  mp := h.mp.keep hb
  dist := h.dist
  bnd := h.bnd
  hnB := h.hnB
  hlen := h.hlen
  bro := fun b hb' => by obtain ⟨po, c2, hc⟩ := h.bro b hb'; exact ⟨po, c2, cell_keeps hb hc⟩
  npc := fun b hb' => cell_keeps hb (h.npc b hb')
  hnB0 := h.hnB0
  np3 := h.np3
  t32 := h.t32
  hol := h.hol
  hcl := h.hcl
  vb := fun a ha => Nat.lt_of_lt_of_le (h.vb a ha) hb.size
  ub := fun a ha => Nat.lt_of_lt_of_le (h.ub a ha) hb.size

theorem NetC.toLPre {w0 w : World} {bs : List Nat} {N Pt Tb Bk Np mb nB M : Nat} {tp : Option Addr} {tcap : Nat} {ths : List Th} {topic pin a0 a1 a2 : Int} {vo uo : Option Addr} {vcc ucc : Nat} {orig cur : List Int} {np : Nat → Nat} (h0 : NetC w0 N Pt Tb Bk Np mb nB tp tcap ths topic pin vo uo vcc ucc orig cur np) (hb : Below w0.heap.size w0 w) (hbs : ∀ b ∈ bs, w0.heap.size ≤ b) (hM : M ∉ bs)
    (m0 : w.cell? ⟨M, 0, none⟩ = some (.int .i32 0)) (m1 : w.cell? ⟨M, 1, none⟩ = some (.int .i32 0)) (m2 : w.cell? ⟨M, 2, none⟩ = some (.int .i64 a0)) (m3 : w.cell? ⟨M, 3, none⟩ = some (.int .i64 a1)) (m4 : w.cell? ⟨M, 4, none⟩ = some (.int .i64 a2)) :
    LPre w bs N M Pt Tb Bk mb nB tp tcap ths topic pin a0 a1 a2 vo uo vcc ucc orig cur np := by
  have h := h0.keep hb
  have off : ∀ k, k < w0.heap.size → k ∉ bs := fun k hk hm => by have := hbs k hm; omega
  have c : ∀ {a : Addr} {v : Value}, w0.cell? a = some v → a.block ∉ bs := fun hc => off _ (World.block_lt_of_cell? _ _ hc)
  refine ⟨h.n0, h.n1, h.n2, h.n3, h.n5, h.n20, m0, m1, m2, m3, m4, h.p0, h.p2, h.p3, h.p7, h.ro, h.rc, h.tb, ?_, ?_, h.mp, h.dist, h.bnd, h.hnB, h.hlen, ?_, h.t32, h.hol, h.hcl, c h0.n0, hM, c h0.p0, c h0.tb, ?_, off _ h0.mp.lt, ?_, ?_⟩
  · intro hz
    obtain ⟨T, e, _, hc⟩ := h0.row hz
    refine ⟨T, e, ?_, fun j hj => ⟨cell_keeps hb (hc j hj).1, cell_keeps hb (hc j hj).2⟩⟩
    have := c (hc 0 (by omega)).1
    exact this
  · exact fun t ht => ⟨h.hold t ht, off _ (h0.hold t ht).lt⟩
  · exact fun b hb' => ⟨h.bro b hb', h.np3 b⟩
  · obtain ⟨po, c2, hc⟩ := h0.bro 0 h0.hnB0
    have := c hc
    exact this
  · exact fun a ha => off _ (h0.vb a ha)
  · exact fun a ha => off _ (h0.ub a ha)

theorem flatT_get : ∀ (l : List Th) (i : Nat), i < l.length → (l.flatMap encT)[i * 2]? = some (.int .i32 (l.getD i default).b) ∧ (l.flatMap encT)[i * 2 + 1]? = some (.pointer (some ⟨(l.getD i default).H, 0, none⟩))
  | [], i, hi => absurd hi (by simp)
  | x :: l, 0, _ => by simp [encT]
  | x :: l, i + 1, hi => by
    have ih := flatT_get l i (by simpa using hi)
    rw [List.flatMap_cons, List.getElem?_append_right (by simp [encT]; omega), List.getElem?_append_right (by simp [encT]; omega), show (i + 1) * 2 - (encT x).length = i * 2 by simp [encT]; omega, show (i + 1) * 2 + 1 - (encT x).length = i * 2 + 1 by simp [encT]; omega]
    simpa using ih

theorem thRow_of_own {w : World} {B tcap : Nat} {tp : Option Addr} {ths : List Th} (h : w.ownsRow B 44 2 (.slice tp ths.length tcap) ths.length (ths.flatMap encT)) : thRow w tp [] ths := by
  intro hz
  obtain ⟨g, cap, e, _, _⟩ := own_shape h (by omega)
  injection e with e1 _ e2
  subst e1 e2
  refine ⟨g, rfl, by simp, fun j hj => ?_⟩
  obtain ⟨h1, h2⟩ := flatT_get ths j hj
  exact ⟨by rw [h.cellAt (j * 2) (by omega)]; exact h1, by rw [h.cellAt (j * 2 + 1) (by omega)]; exact h2⟩

end Go.Proofs.Ybulkkru.cst

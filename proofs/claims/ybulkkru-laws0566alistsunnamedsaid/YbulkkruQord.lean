import Derived.Test.YbulkkruQdef
namespace Go.Proofs.Ybulkkru.cst
set_option linter.unusedVariables false

/-- Two rows of numbers, the first difference decides. -/
def lexC : List Int → List Int → Int
  | a :: l, b :: m => if a < b then -1 else if b < a then 1 else lexC l m
  | _, _ => 0

theorem lexC_neg : ∀ l m : List Int, lexC m l = - lexC l m
  | [], [] => by simp [lexC]
  | [], _ :: _ => by simp [lexC]
  | _ :: _, [] => by simp [lexC]
  | a :: l, b :: m => by
    have ih := lexC_neg l m
    simp only [lexC]
    by_cases h1 : a < b
    · have h2 : ¬ b < a := by omega
      simp [h1, h2]
    · by_cases h2 : b < a
      · simp [h1, h2]
      · simp [h1, h2, ih]

theorem lexC_trans : ∀ l m n : List Int, l.length = m.length → m.length = n.length → lexC l m ≤ 0 → lexC m n ≤ 0 → lexC l n ≤ 0
  | [], [], [], _, _, _, _ => by simp [lexC]
  | a :: l, b :: m, c :: n, h1, h2, k1, k2 => by
    have ih := lexC_trans l m n (by simpa using h1) (by simpa using h2)
    simp only [lexC] at k1 k2 ⊢
    by_cases p1 : a < b
    · by_cases p2 : b < c
      · simp [show a < c by omega]
      · by_cases p3 : c < b
        · simp [p2, p3] at k2
        · simp [show a < c by omega]
    · by_cases p4 : b < a
      · simp [p1, p4] at k1
      · by_cases p2 : b < c
        · simp [show a < c by omega]
        · by_cases p3 : c < b
          · simp [p2, p3] at k2
          · simp [p1, p4] at k1
            simp [p2, p3] at k2
            simp [show ¬ a < c by omega, show ¬ c < a by omega]
            exact ih k1 k2

theorem lexC_zero : ∀ l m : List Int, l.length = m.length → lexC l m = 0 → l = m
  | [], [], _, _ => rfl
  | a :: l, b :: m, h, k => by
    simp only [lexC] at k
    by_cases p1 : a < b
    · simp [p1] at k
    · by_cases p2 : b < a
      · simp [p1, p2] at k
      · simp [p1, p2] at k
        rw [lexC_zero l m (by simpa using h) k, show a = b by omega]

/-- What the order reads of an entry, in turn. -/
def keyQ (x : Q) : List Int := [x.d0, x.d1, x.d2, b2i x.ng, -x.depth, x.kind, x.md, x.f0, x.f1, x.a, x.b]

theorem orL_cmpI (a b : Int) (l : List Int) : orL (cmpI a b :: l) = if a < b then -1 else if b < a then 1 else orL l := by
  show (match cmpI a b == 0 with | true => orL l | false => cmpI a b) = _
  unfold cmpI
  by_cases h1 : a < b
  · simp [h1]
  · by_cases h2 : b < a
    · simp [h1, h2]
    · simp [h1, h2]

theorem cmpI_neg (a b : Int) : cmpI b a = cmpI (-a) (-b) := by
  unfold cmpI
  by_cases h1 : b < a
  · simp [h1]
  · by_cases h2 : a < b
    · simp [h1, h2]
    · simp [h1, h2]

theorem orL_orL3 (x y z : Int) (l : List Int) : orL (orL [x, y, z] :: l) = orL (x :: y :: z :: l) := by
  simp only [orL]
  cases h1 : x == 0 <;> cases h2 : y == 0 <;> cases h3 : z == 0 <;> simp [h1, h2, h3]

theorem cmpQ_lex (x y : Q) : cmpQ x y = lexC (keyQ x) (keyQ y) := by
  unfold cmpQ cmp3 keyQ
  rw [orL_orL3, cmpI_neg x.depth y.depth]
  simp only [orL_cmpI, lexC]
  rfl

theorem cmpQ_neg (x y : Q) : cmpQ y x = - cmpQ x y := by rw [cmpQ_lex, cmpQ_lex, lexC_neg]
theorem cmpQ_trans {x y z : Q} (h : cmpQ x y ≤ 0) (k : cmpQ y z ≤ 0) : cmpQ x z ≤ 0 := by
  rw [cmpQ_lex] at *
  exact lexC_trans (keyQ x) (keyQ y) (keyQ z) (by simp [keyQ]) (by simp [keyQ]) h k
theorem cmpQ_zero {x y : Q} (h : cmpQ x y = 0) : x.b = y.b := by
  rw [cmpQ_lex] at h
  have := lexC_zero (keyQ x) (keyQ y) (by simp [keyQ]) h
  simp [keyQ] at this
  exact this.2.2.2.2.2.2.2.2.2.2

end Go.Proofs.Ybulkkru.cst

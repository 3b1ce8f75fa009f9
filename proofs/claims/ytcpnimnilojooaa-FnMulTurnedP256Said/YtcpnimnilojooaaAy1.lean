/- Straight-line programs over words: a linear form in the variables is followed backwards through the text, and its value stays. -/
import Derived.Test.YtcpnimnilojooaaSy1
namespace Go.Fiat

/-- Sum of coefficients times values. -/
def linVal (ρ : Nat → Nat) : List (Nat × Int) → Int
  | [] => 0
  | p :: r => p.2 * (ρ p.1 : Int) + linVal ρ r

def coef : List (Nat × Int) → Nat → Int
  | [], _ => 0
  | p :: r, v => match Nat.beq p.1 v with
    | true => p.2 + coef r v
    | false => coef r v

def without : List (Nat × Int) → Nat → List (Nat × Int)
  | [], _ => []
  | p :: r, v => match Nat.beq p.1 v with
    | true => without r v
    | false => p :: without r v

theorem linVal_split (ρ : Nat → Nat) (v : Nat) : ∀ l, linVal ρ l = coef l v * (ρ v : Int) + linVal ρ (without l v)
  | [] => by simp [linVal, coef, without]
  | p :: r => by
    have ih := linVal_split ρ v r
    unfold coef without
    split
    · rename_i h
      have h := Nat.eq_of_beq_eq_true h
      rw [linVal, ih, h, Int.add_mul]; omega
    · rw [linVal, linVal, ih]; omega

theorem coef_without : ∀ (l : List (Nat × Int)) (v u : Nat), u ≠ v → coef (without l v) u = coef l u
  | [], _, _, _ => rfl
  | p :: r, v, u, h => by
    have ih := coef_without r v u h
    unfold without
    split
    · rename_i h1
      have h1 := Nat.eq_of_beq_eq_true h1
      rw [ih]
      have h2 : Nat.beq p.1 u = false := by
        cases hb : Nat.beq p.1 u with
        | false => rfl
        | true => exact absurd (Nat.eq_of_beq_eq_true hb) (by omega)
      rw [coef.eq_2, h2]
    · rw [coef.eq_2, coef.eq_2, ih]

theorem linVal_append (ρ : Nat → Nat) (a : List (Nat × Int)) : ∀ b, linVal ρ (b ++ a) = linVal ρ b + linVal ρ a
  | [] => by simp [linVal]
  | p :: r => by rw [List.cons_append, linVal, linVal, linVal_append ρ a r]; omega

def negL (l : List (Nat × Int)) : List (Nat × Int) := l.map fun p => (p.1, -p.2)

theorem linVal_neg (ρ : Nat → Nat) : ∀ l, linVal ρ (negL l) = - linVal ρ l
  | [] => rfl
  | p :: r => by
    have := linVal_neg ρ r
    unfold negL at *
    rw [List.map_cons, linVal, linVal, this]
    show -p.2 * (ρ p.1 : Int) + _ = _
    rw [Int.neg_mul]; omega

/-- Every coefficient is zero. -/
def allZero : Nat → List (Nat × Int) → Bool
  | _, [] => true
  | 0, _ :: _ => false
  | f + 1, p :: r => decide (p.2 + coef r p.1 = 0) && allZero f (without r p.1)

theorem allZero_val (ρ : Nat → Nat) : ∀ (f : Nat) (l : List (Nat × Int)), allZero f l = true → linVal ρ l = 0
  | _, [], _ => rfl
  | 0, _ :: _, h => by simp [allZero] at h
  | f + 1, p :: r, h => by
    simp only [allZero, Bool.and_eq_true, decide_eq_true_eq] at h
    have h2 := allZero_val ρ f _ h.2
    rw [linVal, linVal_split ρ p.1 r, h2, ← Int.add_assoc, ← Int.add_mul, h.1]
    simp

theorem linEq_val (ρ : Nat → Nat) {f : Nat} {a b : List (Nat × Int)} (h : allZero f (a ++ negL b) = true) : linVal ρ a = linVal ρ b := by
  have := allZero_val ρ f _ h
  rw [linVal_append, linVal_neg] at this
  omega

/-- A form: a part linear in the variables, a number, products of two variables, and variables that are kept. -/
structure G where
  lin : List (Nat × Int)
  cst : Int
  quad : List (Nat × Int)
  kept : List (Nat × Int)

def quadOf (ρ : Nat → Nat) (k : Nat) : Nat := ρ (k / 65536) * ρ (k % 65536)

def G.val (ρ : Nat → Nat) (g : G) : Int := linVal ρ g.lin + g.cst + linVal (quadOf ρ) g.quad + linVal ρ g.kept

def G.addRef (g : G) (c : Int) : Ref → G
  | .k n => { g with cst := g.cst + c * (n : Int) }
  | .v i => { g with lin := (i, c) :: g.lin }

theorem G.val_addRef (ρ : Nat → Nat) (g : G) (c : Int) (r : Ref) : (g.addRef c r).val ρ = g.val ρ + c * (r.val ρ : Int) := by
  cases r with
  | k n => simp only [G.addRef, G.val, Ref.val]; omega
  | v i => simp only [G.addRef, G.val, Ref.val, linVal]; omega

def G.addProd (g : G) (c : Int) : Ref → Ref → Option G
  | .k m, .k n => some { g with cst := g.cst + c * ((m : Int) * (n : Int)) }
  | .v i, .k n => some { g with lin := (i, c * (n : Int)) :: g.lin }
  | .k m, .v j => some { g with lin := (j, c * (m : Int)) :: g.lin }
  | .v i, .v j => match Nat.blt j 65536 with
    | true => some { g with quad := (i * 65536 + j, c) :: g.quad }
    | false => none

theorem G.val_addProd (ρ : Nat → Nat) {g g' : G} {c : Int} {x y : Ref} (h : g.addProd c x y = some g') : g'.val ρ = g.val ρ + c * ((x.val ρ : Int) * (y.val ρ : Int)) := by
  unfold G.addProd at h
  split at h
  · rw [← Option.some.inj h]; simp only [G.val, Ref.val]; omega
  · rw [← Option.some.inj h]; simp only [G.val, Ref.val, linVal]
    rw [Int.mul_assoc, Int.mul_comm (_ : Int) (ρ _ : Int)]; omega
  · rw [← Option.some.inj h]; simp only [G.val, Ref.val, linVal]
    rw [Int.mul_assoc]; omega
  · rename_i i j
    split at h
    · rename_i hj
      have hj' : j < 65536 := by simpa using hj
      rw [← Option.some.inj h]; simp only [G.val, Ref.val, linVal, quadOf]
      rw [show (i * 65536 + j) / 65536 = i by omega, show (i * 65536 + j) % 65536 = j by omega, Int.natCast_mul]
      omega
    · cases h

/-- An upper bound of a reference's value. -/
def ubs : Ref → Nat
  | .k n => n
  | .v _ => 18446744073709551615

def ub (n0 ib : Nat) : List Ins → Ref → Nat
  | _, .k n => n
  | [], .v i => match Nat.blt i n0 with
    | true => ib
    | false => 18446744073709551615
  | ins :: rest, .v i => match ins with
    | .mul d x y => match Nat.beq i d with
      | true => ubs x * ubs y / 18446744073709551616
      | false => match Nat.beq i (d + 1) with
        | true => 18446744073709551615
        | false => ub n0 ib rest (.v i)
    | .add d _ _ c => match Nat.beq i d with
      | true => 18446744073709551615
      | false => match Nat.beq i (d + 1) with
        | true => (18446744073709551615 + 18446744073709551615 + ub n0 ib rest c) / 18446744073709551616
        | false => ub n0 ib rest (.v i)
    | .sub d _ _ _ => match Nat.beq i d with
      | true => 18446744073709551615
      | false => match Nat.beq i (d + 1) with
        | true => 1
        | false => ub n0 ib rest (.v i)
    | .plus d x y => match Nat.beq i d with
      | true => ub n0 ib rest x + ub n0 ib rest y
      | false => ub n0 ib rest (.v i)
    | .shl d x n => match Nat.beq i d with
      | true => ub n0 ib rest x * 2 ^ n
      | false => ub n0 ib rest (.v i)
    | .sel d _ _ _ | .shr d _ _ => match Nat.beq i d with
      | true => 18446744073709551615
      | false => ub n0 ib rest (.v i)
    | .low d _ => match Nat.beq i d with
      | true => 255
      | false => ub n0 ib rest (.v i)
    | .less d _ _ | .same d _ _ => match Nat.beq i d with
      | true => 1
      | false => ub n0 ib rest (.v i)
    | .fn _ _ _ _ _ => 18446744073709551615

/-- All variables are words. -/
def Words (ρ : Nat → Nat) : Prop := ∀ i, ρ i < 18446744073709551616
/-- All known numbers in an instruction are words. -/
def Ref.word : Ref → Bool
  | .k n => Nat.blt n 18446744073709551616
  | .v _ => true

theorem Ref.word_val {ρ : Nat → Nat} (hW : Words ρ) {r : Ref} (h : r.word = true) : r.val ρ < 18446744073709551616 := by
  cases r with
  | k n => simpa [Ref.word, Ref.val] using h
  | v i => exact hW i

def Ins.word : Ins → Bool
  | .mul _ x y | .plus _ x y => x.word && y.word
  | .add _ x y c | .sub _ x y c | .sel _ c x y => x.word && y.word && c.word
  | .shl _ x _ | .shr _ x _ | .low _ x => x.word
  | .less _ _ _ | .same _ _ _ | .fn _ _ _ _ _ => true

def wordy : List Ins → Bool
  | [] => true
  | i :: r => i.word && wordy r

theorem ubs_le {ρ : Nat → Nat} (hW : Words ρ) (r : Ref) : r.val ρ ≤ ubs r := by
  cases r with
  | k n => exact Nat.le_refl _
  | v i => have := hW i; simp only [Ref.val, ubs]; omega

theorem ub_le {ρ : Nat → Nat} {n0 ib : Nat} (hW : Words ρ) (hI : ∀ i, i < n0 → ρ i ≤ ib) : ∀ (l : List Ins), wordy l = true → (∀ i ∈ l, i.sat ρ) → ∀ r : Ref, r.val ρ ≤ ub n0 ib l r
  | l, hw, hs, .k n => by cases l <;> simp [ub, Ref.val]
  | [], _, _, .v i => by
    unfold ub
    split
    · rename_i h; exact hI i (by simpa using h)
    · have := hW i; simp only [Ref.val]; omega
  | ins :: rest, hw, hs, .v i => by
    simp only [wordy, Bool.and_eq_true] at hw
    have hsat : ins.sat ρ := hs ins List.mem_cons_self
    have ih := ub_le hW hI rest hw.2 (fun i hi => hs i (List.mem_cons_of_mem _ hi))
    have hi := hW i
    have ih' := ih (.v i)
    unfold ub
    cases ins with
    | mul d x y =>
      dsimp only
      split
      · rename_i h
        rw [Nat.eq_of_beq_eq_true h]
        show ρ d ≤ _
        rw [hsat.1]
        exact Nat.div_le_div_right (Nat.mul_le_mul (ubs_le hW x) (ubs_le hW y))
      · split
        · simp only [Ref.val]; omega
        · exact ih'
    | add d x y c =>
      dsimp only
      split
      · simp only [Ref.val]; omega
      · split
        · rename_i h
          rw [Nat.eq_of_beq_eq_true h]
          show ρ (d + 1) ≤ _
          rw [hsat.2]
          have hw1 := hw.1
          simp only [Ins.word, Bool.and_eq_true] at hw1
          have h1 := Ref.word_val hW hw1.1.1
          have h2 := Ref.word_val hW hw1.1.2
          have h3 := ih c
          exact Nat.div_le_div_right (by omega)
        · exact ih'
    | sub d x y c =>
      dsimp only
      split
      · simp only [Ref.val]; omega
      · split
        · rename_i h
          rw [Nat.eq_of_beq_eq_true h]
          show ρ (d + 1) ≤ _
          rw [hsat.2]
          split <;> omega
        · exact ih'
    | plus d x y =>
      dsimp only
      split
      · rename_i h
        rw [Nat.eq_of_beq_eq_true h]
        show ρ d ≤ _
        have h0 : ρ d = _ := hsat
        rw [h0]
        have h1 := ih x
        have h2 := ih y
        exact Nat.le_trans (Nat.mod_le _ _) (by omega)
      · exact ih'
    | shl d x n =>
      dsimp only
      split
      · rename_i h
        rw [Nat.eq_of_beq_eq_true h]
        show ρ d ≤ _
        have h0 : ρ d = _ := hsat
        rw [h0]
        exact Nat.le_trans (Nat.mod_le _ _) (Nat.mul_le_mul_right _ (ih x))
      · exact ih'
    | sel d c x y =>
      dsimp only
      split
      · simp only [Ref.val]; omega
      · exact ih'
    | shr d x n =>
      dsimp only
      split
      · simp only [Ref.val]; omega
      · exact ih'
    | low d x =>
      dsimp only
      split
      · rename_i h
        rw [Nat.eq_of_beq_eq_true h]
        show ρ d ≤ _
        have h0 : ρ d = _ := hsat
        rw [h0]; omega
      · exact ih'
    | less d xs ys =>
      dsimp only
      split
      · rename_i h
        rw [Nat.eq_of_beq_eq_true h]
        show ρ d ≤ _
        have h0 : ρ d = _ := hsat
        rw [h0]; split <;> omega
      · exact ih'
    | same d xs ys =>
      dsimp only
      split
      · rename_i h
        rw [Nat.eq_of_beq_eq_true h]
        show ρ d ≤ _
        have h0 : ρ d = _ := hsat
        rw [h0]; split <;> omega
      · exact ih'
    | fn d n k byt args => simp only [Ref.val]; omega

end Go.Fiat

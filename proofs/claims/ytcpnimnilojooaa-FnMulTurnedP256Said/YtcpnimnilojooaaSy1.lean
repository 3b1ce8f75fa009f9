/- A symbolic executor for code over words: what temporaries hold, instructions, and a finite map. -/
import Derived.StillTail
import Derived.Laws.Externs
import Derived.Laws.World
namespace Go.Fiat
open Go

/-- A number that is known, or the value of a variable of the straight-line program. -/
inductive Ref where
  | k (n : Nat)
  | v (i : Nat)
  deriving DecidableEq

def Ref.val (ρ : Nat → Nat) : Ref → Nat
  | .k n => n
  | .v i => ρ i

/-- What a temporary holds. A cell of block k; an array's elements (true: a word, false: a byte); a truth value (turned or not: whether the number is not 0); a slice over the whole of block k; an int. -/
inductive AV where
  | w (r : Ref)
  | b (r : Ref)
  | pair (r s : Ref)
  | cell (k off : Nat)
  | agg (l : List (Bool × Ref))
  | bool (neg : Bool) (r : Ref)
  | slice (k len : Nat)
  | int (n : Nat)
  deriving DecidableEq

/-- A word (true) or a byte (false) as a value. -/
def sv (ρ : Nat → Nat) (x : Bool × Ref) : Value := .int (match x.1 with | true => .u64 | false => .u8) (x.2.val ρ : Nat)

def truth (ρ : Nat → Nat) (neg : Bool) (r : Ref) : Bool := neg != !(Nat.beq (r.val ρ) 0)

/-- A cell's content as what a temporary holds. -/
def AV.ofS : Bool × Ref → AV
  | (true, r) => .w r
  | (false, r) => .b r

def AV.conc (ρ β : Nat → Nat) : AV → Value
  | .w r => .int .u64 (r.val ρ : Nat)
  | .b r => .int .u8 (r.val ρ : Nat)
  | .pair r s => .tuple #[.int .u64 (r.val ρ : Nat), .int .u64 (s.val ρ : Nat)]
  | .cell k o => .pointer (some ⟨β k, o, none⟩)
  | .agg l => .agg (l.map (sv ρ)).toArray
  | .bool neg r => .bool (truth ρ neg r)
  | .slice k len => .slice (some ⟨β k, 0, none⟩) len len
  | .int n => .int .i64 (n : Nat)

theorem AV.conc_ofS (ρ β : Nat → Nat) (x : Bool × Ref) : (AV.ofS x).conc ρ β = sv ρ x := by
  obtain ⟨k, r⟩ := x
  cases k <;> rfl

/-- A number's words, the least first, and back; the same of bytes. -/
def wval : List Nat → Nat
  | [] => 0
  | x :: r => x + 18446744073709551616 * wval r
def bval : List Nat → Nat
  | [] => 0
  | x :: r => x + 256 * bval r
def aval (byt : Bool) (l : List Nat) : Nat := match byt with | true => bval l | false => wval l

/-- What a function of the tables computes: modulo p, times c. -/
inductive Kind where
  | mulm (p c : Nat)
  | lin (p c : Nat)
  | sqr (p c : Nat)
  | addm (p : Nat)
  | idv
  deriving DecidableEq

def Kind.val : Kind → List Nat → Nat
  | .mulm p c, [x, y] => x * y * c % p
  | .lin p c, [x] => x * c % p
  | .sqr p c, [x] => x * x * c % p
  | .addm p, [x, y] => (x + y) % p
  | .idv, [x] => x
  | _, _ => 0

/-- Below what its values are (0: nothing is said). -/
def Kind.bound : Kind → Nat
  | .mulm p _ | .lin p _ | .sqr p _ | .addm p => p
  | .idv => 0

/-- An instruction; `d` is the number of the first variable that it gives. -/
inductive Ins where
  | mul (d : Nat) (x y : Ref)
  | add (d : Nat) (x y c : Ref)
  | sub (d : Nat) (x y c : Ref)
  | plus (d : Nat) (x y : Ref)
  | sel (d : Nat) (c x y : Ref)
  | shl (d : Nat) (x : Ref) (n : Nat)
  | shr (d : Nat) (x : Ref) (n : Nat)
  | low (d : Nat) (x : Ref)
  | less (d : Nat) (xs ys : List Ref)
  | same (d : Nat) (xs ys : List Ref)
  | fn (d n : Nat) (k : Kind) (byt : Bool) (args : List (List Ref))
  deriving DecidableEq

def vals (ρ : Nat → Nat) (xs : List Ref) : List Nat := xs.map (Ref.val ρ)

def Ins.sat (ρ : Nat → Nat) : Ins → Prop
  | .mul d x y => ρ d = x.val ρ * y.val ρ / 18446744073709551616 ∧ ρ (d + 1) = x.val ρ * y.val ρ % 18446744073709551616
  | .add d x y c => ρ d = (x.val ρ + y.val ρ + c.val ρ) % 18446744073709551616 ∧ ρ (d + 1) = (x.val ρ + y.val ρ + c.val ρ) / 18446744073709551616
  | .sub d x y c => ρ d = (x.val ρ + 18446744073709551616 - y.val ρ - c.val ρ) % 18446744073709551616 ∧ ρ (d + 1) = if x.val ρ < y.val ρ + c.val ρ then 1 else 0
  | .plus d x y => ρ d = (x.val ρ + y.val ρ) % 18446744073709551616
  | .sel d c x y => ρ d = if c.val ρ = 0 then x.val ρ else y.val ρ
  | .shl d x n => ρ d = x.val ρ * 2 ^ n % 18446744073709551616
  | .shr d x n => ρ d = x.val ρ / 2 ^ n
  | .low d x => ρ d = x.val ρ % 256
  | .less d xs ys => ρ d = if wval (vals ρ xs) < wval (vals ρ ys) then 1 else 0
  | .same d xs ys => ρ d = if vals ρ xs = vals ρ ys then 1 else 0
  | .fn d n k byt args => ∀ i, i < n → ρ (d + i) = k.val (args.map fun a => aval byt (vals ρ a)) / 18446744073709551616 ^ i % 18446744073709551616

/-! ### A finite map from numbers -/

inductive Tree where
  | leaf
  | node (v : Option AV) (l r : Tree)
  deriving DecidableEq

def Tree.get : Tree → Nat → Option AV
  | .leaf, _ => none
  | .node v l r, k =>
    match k with
    | 0 => v
    | j + 1 => match Nat.beq (j % 2) 0 with
      | true => l.get (j / 2)
      | false => r.get (j / 2)

def Tree.set : Nat → Tree → Nat → Option AV → Tree
  | 0, _, _, _ => .leaf
  | f + 1, .leaf, k, x =>
    match k with
    | 0 => .node x .leaf .leaf
    | j + 1 => match Nat.beq (j % 2) 0 with
      | true => .node none (Tree.set f .leaf (j / 2) x) .leaf
      | false => .node none .leaf (Tree.set f .leaf (j / 2) x)
  | f + 1, .node v l r, k, x =>
    match k with
    | 0 => .node x l r
    | j + 1 => match Nat.beq (j % 2) 0 with
      | true => .node v (Tree.set f l (j / 2) x) r
      | false => .node v l (Tree.set f r (j / 2) x)

theorem Tree.get_set : ∀ (f : Nat) (t : Tree) (k : Nat) (x : Option AV) (j : Nat) (av : AV), (t.set f k x).get j = some av → (j = k ∧ x = some av) ∨ (j ≠ k ∧ t.get j = some av)
  | 0, t, k, x, j, av, h => by simp [Tree.set, Tree.get] at h
  | f + 1, .leaf, k, x, j, av, h => by
    have hl : ∀ i, Tree.leaf.get i = none := fun i => rfl
    cases k with
    | zero =>
      cases j with
      | zero => simp [Tree.set, Tree.get] at h; exact .inl ⟨rfl, h⟩
      | succ j => simp only [Tree.set, Tree.get] at h; split at h <;> simp at h
    | succ k =>
      simp only [Tree.set] at h
      split at h
      · rename_i hk
        cases j with
        | zero => simp [Tree.get] at h
        | succ j =>
          simp only [Tree.get] at h
          split at h
          · rename_i hj
            rcases Tree.get_set f .leaf (k / 2) x (j / 2) av h with ⟨h1, h2⟩ | ⟨h1, h2⟩
            · refine .inl ⟨?_, h2⟩
              have := Nat.eq_of_beq_eq_true hk; have := Nat.eq_of_beq_eq_true hj; omega
            · simp [Tree.get] at h2
          · simp at h
      · rename_i hk
        cases j with
        | zero => simp [Tree.get] at h
        | succ j =>
          simp only [Tree.get] at h
          split at h
          · simp at h
          · rename_i hj
            rcases Tree.get_set f .leaf (k / 2) x (j / 2) av h with ⟨h1, h2⟩ | ⟨h1, h2⟩
            · refine .inl ⟨?_, h2⟩
              have := Nat.ne_of_beq_eq_false hk; have := Nat.ne_of_beq_eq_false hj; omega
            · simp [Tree.get] at h2
  | f + 1, .node v l r, k, x, j, av, h => by
    cases k with
    | zero =>
      cases j with
      | zero => simp [Tree.set, Tree.get] at h; exact .inl ⟨rfl, h⟩
      | succ j => exact .inr ⟨by omega, h⟩
    | succ k =>
      simp only [Tree.set] at h
      split at h
      · rename_i hk
        cases j with
        | zero => exact .inr ⟨by omega, h⟩
        | succ j =>
          simp only [Tree.get] at h ⊢
          split at h
          · rename_i hj
            rcases Tree.get_set f l (k / 2) x (j / 2) av h with ⟨h1, h2⟩ | ⟨h1, h2⟩
            · refine .inl ⟨?_, h2⟩
              have := Nat.eq_of_beq_eq_true hk; have := Nat.eq_of_beq_eq_true hj; omega
            · refine .inr ⟨fun e => h1 (by omega), ?_⟩
              first | rw [hj]; exact h2 | simpa [hj] using h2
          · rename_i hj
            refine .inr ⟨fun e => ?_, ?_⟩
            · have := Nat.eq_of_beq_eq_true hk; have := Nat.ne_of_beq_eq_false hj; omega
            · first | rw [hj]; exact h | simpa [hj] using h
      · rename_i hk
        cases j with
        | zero => exact .inr ⟨by omega, h⟩
        | succ j =>
          simp only [Tree.get] at h ⊢
          split at h
          · rename_i hj
            refine .inr ⟨fun e => ?_, ?_⟩
            · have := Nat.ne_of_beq_eq_false hk; have := Nat.eq_of_beq_eq_true hj; omega
            · first | rw [hj]; exact h | simpa [hj] using h
          · rename_i hj
            rcases Tree.get_set f r (k / 2) x (j / 2) av h with ⟨h1, h2⟩ | ⟨h1, h2⟩
            · refine .inl ⟨?_, h2⟩
              have := Nat.ne_of_beq_eq_false hk; have := Nat.ne_of_beq_eq_false hj; omega
            · refine .inr ⟨fun e => h1 (by omega), ?_⟩
              first | rw [hj]; exact h2 | simpa [hj] using h2

end Go.Fiat

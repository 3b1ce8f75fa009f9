/- What the laws say in numbers; the law of the square. -/
import Derived.Test.YtcpnimnilojooaaX9
namespace Go.Fiat
open Go Go.Proofs

theorem pc_less {ρ : Nat → Nat} {d : Nat} {xs ys : List Ref} (h : (Ins.less d xs ys).sat ρ) (hp : (!(Nat.beq (ρ d) 0)) = true) : wval (vals ρ xs) < wval (vals ρ ys) := by
  have h0 : ρ d = if wval (vals ρ xs) < wval (vals ρ ys) then 1 else 0 := h
  rw [h0] at hp
  split at hp
  · assumption
  · cases hp

theorem pc_not_less {ρ : Nat → Nat} {d : Nat} {xs ys : List Ref} (h : (Ins.less d xs ys).sat ρ) (hp : (!(Nat.beq (ρ d) 0)) = false) : ¬ wval (vals ρ xs) < wval (vals ρ ys) := by
  intro hl
  have h0 : ρ d = if wval (vals ρ xs) < wval (vals ρ ys) then 1 else 0 := h
  rw [h0, if_pos hl] at hp
  cases hp

theorem pc_not_same {ρ : Nat → Nat} {d : Nat} {xs ys : List Ref} (h : (Ins.same d xs ys).sat ρ) (hp : (!(Nat.beq (ρ d) 0)) = false) : vals ρ xs ≠ vals ρ ys := by
  intro hl
  have h0 : ρ d = if vals ρ xs = vals ρ ys then 1 else 0 := h
  rw [h0, if_pos hl] at hp
  cases hp

theorem same_true {ρ : Nat → Nat} {d : Nat} {xs ys : List Ref} (h : (Ins.same d xs ys).sat ρ) (he : vals ρ xs = vals ρ ys) : truth ρ false (.v d) = true := by
  have h0 : ρ d = if vals ρ xs = vals ρ ys then 1 else 0 := h
  rw [if_pos he] at h0
  unfold truth
  rw [val_v, h0]; rfl

theorem pp_pow : pp ≤ 18446744073709551616 ^ 4 := by decide

/-- What a function of the table gives, as a number. -/
theorem fn_val {ρ : Nat → Nat} {d : Nat} {k : Kind} {args : List (List Ref)} (h : (Ins.fn d 4 k false args).sat ρ) (hk : k.val (args.map fun a => wval (vals ρ a)) < pp) :
    wval (vals ρ (vars d 4)) = k.val (args.map fun a => wval (vals ρ a)) := by
  have h1 := vals_vars ρ d 4 h
  have h2 : (args.map fun a => aval false (vals ρ a)) = args.map fun a => wval (vals ρ a) := rfl
  rw [h2] at h1
  rw [h1, wval_toW, Nat.mod_eq_of_lt (Nat.lt_of_lt_of_le hk pp_pow)]

theorem fn_same {ρ : Nat → Nat} {d e : Nat} {k k' : Kind} {args args' : List (List Ref)} (h : (Ins.fn d 4 k false args).sat ρ) (h' : (Ins.fn e 4 k' false args').sat ρ) (he : k.val (args.map fun a => wval (vals ρ a)) = k'.val (args'.map fun a => wval (vals ρ a))) :
    vals ρ (vars d 4) = vals ρ (vars e 4) := by
  rw [vals_vars ρ d 4 h, vals_vars ρ e 4 h']
  exact congrArg (toW 4) he

theorem fn_is {ρ : Nat → Nat} {d : Nat} {k : Kind} {args : List (List Ref)} {xs : List Ref} (h : (Ins.fn d 4 k false args).sat ρ) (hl : xs.length = 4) (hx : ∀ x ∈ vals ρ xs, x < 18446744073709551616) (he : k.val (args.map fun a => wval (vals ρ a)) = wval (vals ρ xs)) :
    vals ρ (vars d 4) = vals ρ xs := by
  rw [vals_vars ρ d 4 h]
  exact (toW_of (by simp [vals, hl]) hx he.symm).symm

theorem vars_words {ρ : Nat → Nat} (hW : Words ρ) (d n : Nat) : ∀ x ∈ vals ρ (vars d n), x < 18446744073709551616 := by
  intro x hx
  obtain ⟨r, hr, rfl⟩ := List.mem_map.1 hx
  obtain ⟨i, -, rfl⟩ := List.mem_map.1 hr
  exact hW _

theorem mm_val (ρ : Nat → Nat) : wval (vals ρ (mm.map .k)) = pp := by
  rw [← mm_ok]; congr 1

theorem pp_pos : 0 < pp := by decide
theorem R1II : R1 * II % pp = 1 % pp := by kernel_rfl
theorem IIR1 : II * R1 % pp = 1 % pp := by rw [Nat.mul_comm]; exact R1II

theorem cancel {a b : Nat} (x : Nat) (h : a * b % pp = 1 % pp) : x * a % pp * b % pp = x % pp := by
  rw [Nat.mul_mod, Nat.mod_mod, ← Nat.mul_mod, Nat.mul_assoc, Nat.mul_mod, h, ← Nat.mul_mod, Nat.mul_one]

theorem cancel' {a b : Nat} (x : Nat) (h : a * b % pp = 1 % pp) : x * a * b % pp = x % pp := by
  rw [Nat.mul_assoc, Nat.mul_mod, h, ← Nat.mul_mod, Nat.mul_one]

end Go.Fiat

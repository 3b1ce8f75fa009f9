/- From a run of a field's function to its contract: the run is parted into what leads to the conditional subtraction, that subtraction, and the choice; all is looked at by one closed test. -/
import Derived.Test.YtcpnimnilojooaaB1
namespace Go.Fiat
open Go

/-- The choices that a text ends with (the last first), as (output, choice, where not owed, else). -/
def selOf : Ins → Option (Nat × Nat × Ref × Ref)
  | .sel o (.v bb) d t => some (o, bb, d, t)
  | _ => none

def selsOf : List Ins → Option (List (Nat × Nat × Ref × Ref))
  | [] => some []
  | i :: r => match selOf i, selsOf r with
    | some x, some l => some (x :: l)
    | _, _ => none

def Fn.ofOut (n0 n p : Nat) (out : List Ins) : Option Fn :=
  match selsOf (out.take n).reverse with
  | some ss => match ss, (out.drop n).take (n + 1) with
    | (_, bb, _, _) :: _, .sub d t _ _ :: r => some { n0 := n0, ib := 18446744073709551615, n := n, p := p, bb := bb, os := ss.map (·.1), ds := ss.map (·.2.2.1), ts := ss.map (·.2.2.2), dt := .v d, tt := t, subs := .sub d t (.k 0) (match r with | .sub _ _ _ _ :: _ => .v (d - 1) | _ => .k 0) :: r, main := out.drop (n + (n + 1)) }
    | _, _ => none
  | none => none

/-- All that is looked at. -/
def fieldRun (m n p R : Nat) (q : Option G) : Option (List (Option AV × St)) → Bool
  | some [(some (.agg l), s)] => match refsOf true l, Fn.ofOut (m * n) n p s.out with
    | some os, some f => decide (f.out = s.out) && decide (os = f.os.map .v) && (f.formOk && f.subOk && f.mainOk R q) && (chain (m * n) s.out.reverse && wordy s.out.reverse) && (Nat.beq f.p p && Nat.beq f.n n && Nat.beq f.n0 (m * n) && Nat.beq f.ib 18446744073709551615)
    | _, _ => false
  | _ => false

/-- A multiple of R is known modulo p: so is the number. -/
theorem mod_of_mul {R I o q p : Nat} (hI : R * I % p = 1 % p) (h : o * R % p = q % p) (ho : o < p) : o = q * I % p := by
  have h1 : o * (R * I) % p = q * I % p := by
    rw [← Nat.mul_assoc, Nat.mul_mod (o * R) I p, h, ← Nat.mul_mod]
  rw [← h1, Nat.mul_mod, hI, ← Nat.mul_mod, Nat.mul_one, Nat.mod_eq_of_lt ho]

section
variable {P : Program} {T : Tab} {f : FuncId} {fn : Func} {d m n p R I : Nat} {k : Kind} {q : Option G} {r : Option (List (Option AV × St))}

/-- A field's function, by its run: `Q` is the number that the form `q` says. -/
theorem field_contract (hT : TabOk P T) (hO : OrcsOk P T) (hm : P.follows .mixedOrders = true) (hf : P.funcs[f]? = some fn) (hrun : fieldRun m n p R q (runFun T d fn (argAVs false m n) (St.init (m * n))) = true) (hp : p ≠ 0) (hI : R * I % p = 1 % p)
    (hq : ∀ ρ g, Words ρ → q = some g → (∀ a ∈ argv m n, wval (vals ρ a) < p) → ∃ Q : Nat, g.val ρ = (Q : Int) ∧ Q < (R + 1) * p ∧ k.val ((argv m n).map fun a => wval (vals ρ a)) = Q * I % p) :
    OrcOk P f (.aggs k p n false m n) := by
  cases hr : runFun T d fn (argAVs false m n) (St.init (m * n)) with
  | none => rw [hr] at hrun; cases hrun
  | some L =>
    rw [hr] at hrun
    unfold fieldRun at hrun
    split at hrun
    · rename_i l s heq
      have e := Option.some.inj heq
      subst e
      split at hrun
      · rename_i os F hos hF
        simp only [Bool.and_eq_true, decide_eq_true_eq] at hrun
        obtain ⟨⟨⟨⟨h1, h2⟩, ⟨h3, h4⟩, h5⟩, h6, h7⟩, ⟨⟨h8, h9⟩, h10⟩, h11⟩ := hrun
        have h8 := Nat.eq_of_beq_eq_true h8
        have h9 := Nat.eq_of_beq_eq_true h9
        have h11 := Nat.eq_of_beq_eq_true h11
        have hl := refsOf_eq hos
        have hosn : F.os.length = n := by
          have := h3
          simp only [Fn.formOk, Bool.and_eq_true] at this
          rw [Nat.eq_of_beq_eq_true this.1.1.1.1.1.1.1.1.1.1, h9]
        refine aggs_of_run hT hO hm hf hr (os := os) (out := s.out) (fun x hx => ?_) h6 h7 fun ρ hW hin hs hlt => ?_
        · rw [List.mem_singleton.1 hx]
          exact ⟨by rw [hl]; rfl, fun i hi => hi⟩
        · have hlt' : ∀ a ∈ argv m n, wval (vals ρ a) < p := fun a ha => by
            rcases hlt a ha with h | h
            · exact absurd h hp
            · exact h
          have hqs : ∃ g, q = some g := by
            unfold Fn.mainOk at h5
            split at h5
            · exact ⟨_, rfl⟩
            · cases h5
          obtain ⟨g, hg⟩ := hqs
          obtain ⟨Q, hQ1, hQ2, hQ3⟩ := hq ρ g hW hg hlt'
          obtain ⟨c1, c2⟩ := Fn.sound hg hW (fun i _ => by rw [h11]; have := hW i; omega) (by rw [h1]; exact hs) h3 h4 h5 Q hQ1 (by rw [h8]; exact hQ2)
          rw [h8] at c1 c2
          have e2 : vals ρ os = F.os.map ρ := by
            rw [h2]; unfold vals; rw [List.map_map]; rfl
          rw [e2]
          refine toW_of (by simp [hosn]) (fun x hx => ?_) ?_
          · obtain ⟨i, -, rfl⟩ := List.mem_map.1 hx
            exact hW i
          · have e3 : ((argv m n).map fun a => aval false (vals ρ a)) = (argv m n).map fun a => wval (vals ρ a) := rfl
            rw [e3, hQ3]
            exact mod_of_mul hI c2 c1
      · cases hrun
    · cases hrun

end

/-! ### The forms -/

theorem argv_one (n : Nat) : argv 1 n = [vars 0 n] := by simp [argv]
theorem argv_two (n : Nat) : argv 2 n = [vars 0 n, vars n n] := by simp [argv, List.range_succ]

theorem val_prod {ρ : Nat → Nat} {xs ys : List Ref} {g : G} (h : G.zero.product 1 xs ys = some g) : g.val ρ = ((wval (vals ρ xs) * wval (vals ρ ys) : Nat) : Int) := by
  rw [G.val_product ρ xs ys _ _ _ h, G.val_zero, Int.natCast_mul]
  unfold vals; omega

theorem val_lin {ρ : Nat → Nat} {xs : List Ref} {c : Nat} : (G.zero.words (c : Int) xs).val ρ = ((c * wval (vals ρ xs) : Nat) : Int) := by
  rw [G.val_words, G.val_zero, Int.natCast_mul]
  unfold vals; omega

theorem val_sum {ρ : Nat → Nat} {xs ys : List Ref} : ((G.zero.words 1 xs).words 1 ys).val ρ = ((wval (vals ρ xs) + wval (vals ρ ys) : Nat) : Int) := by
  rw [G.val_words, G.val_words, G.val_zero, Int.natCast_add]
  unfold vals; omega

section
variable {P : Program} {T : Tab} {f : FuncId} {fn : Func} {d n p R I : Nat}

theorem sqr_contract (hT : TabOk P T) (hO : OrcsOk P T) (hm : P.follows .mixedOrders = true) (hf : P.funcs[f]? = some fn) (hrun : fieldRun 1 n p R (G.zero.product 1 (vars 0 n) (vars 0 n)) (runFun T d fn (argAVs false 1 n) (St.init (1 * n))) = true)
    (hp : p ≠ 0) (hI : R * I % p = 1 % p) (hR : p ≤ R) : OrcOk P f (.aggs (.sqr p I) p n false 1 n) := by
  refine field_contract hT hO hm hf hrun hp hI fun ρ g hW hg hlt => ?_
  rw [argv_one] at hlt ⊢
  have h1 := hlt _ List.mem_cons_self
  refine ⟨_, val_prod hg, ?_, rfl⟩
  have := Nat.mul_le_mul (Nat.le_of_lt h1) (Nat.le_of_lt h1)
  have h2 := Nat.mul_le_mul_right p hR
  rw [Nat.add_mul]; omega

theorem mul_contract (hT : TabOk P T) (hO : OrcsOk P T) (hm : P.follows .mixedOrders = true) (hf : P.funcs[f]? = some fn) (hrun : fieldRun 2 n p R (G.zero.product 1 (vars 0 n) (vars n n)) (runFun T d fn (argAVs false 2 n) (St.init (2 * n))) = true)
    (hp : p ≠ 0) (hI : R * I % p = 1 % p) (hR : p ≤ R) : OrcOk P f (.aggs (.mulm p I) p n false 2 n) := by
  refine field_contract hT hO hm hf hrun hp hI fun ρ g hW hg hlt => ?_
  rw [argv_two] at hlt ⊢
  have h1 := hlt _ List.mem_cons_self
  have h1' := hlt (vars n n) (by simp)
  refine ⟨_, val_prod hg, ?_, rfl⟩
  have := Nat.mul_le_mul (Nat.le_of_lt h1) (Nat.le_of_lt h1')
  have h2 := Nat.mul_le_mul_right p hR
  rw [Nat.add_mul]; omega

theorem from_contract (hT : TabOk P T) (hO : OrcsOk P T) (hm : P.follows .mixedOrders = true) (hf : P.funcs[f]? = some fn) (hrun : fieldRun 1 n p R (some (G.zero.words ((1 : Nat) : Int) (vars 0 n))) (runFun T d fn (argAVs false 1 n) (St.init (1 * n))) = true)
    (hp : p ≠ 0) (hI : R * I % p = 1 % p) : OrcOk P f (.aggs (.lin p I) p n false 1 n) := by
  refine field_contract hT hO hm hf hrun hp hI fun ρ g hW hg hlt => ?_
  rw [argv_one] at hlt ⊢
  have h1 := hlt _ List.mem_cons_self
  rw [← Option.some.inj hg]
  refine ⟨_, val_lin, ?_, by rw [Nat.one_mul]; rfl⟩
  rw [Nat.one_mul, Nat.add_mul, Nat.one_mul]; omega

/-- Into the domain: times `c`, which is `R` times what it comes to. -/
theorem to_contract {c e : Nat} (hT : TabOk P T) (hO : OrcsOk P T) (hm : P.follows .mixedOrders = true) (hf : P.funcs[f]? = some fn) (hrun : fieldRun 1 n p R (some (G.zero.words (c : Int) (vars 0 n))) (runFun T d fn (argAVs false 1 n) (St.init (1 * n))) = true)
    (hp : p ≠ 0) (hI : R * I % p = 1 % p) (hc : c ≤ R) (he : c * I % p = e % p) : OrcOk P f (.aggs (.lin p e) p n false 1 n) := by
  refine field_contract hT hO hm hf hrun hp hI fun ρ g hW hg hlt => ?_
  rw [argv_one] at hlt ⊢
  have h1 := hlt _ List.mem_cons_self
  rw [← Option.some.inj hg]
  refine ⟨_, val_lin, ?_, ?_⟩
  · have := Nat.mul_le_mul hc (Nat.le_of_lt h1)
    rw [Nat.add_mul, Nat.one_mul]; omega
  · show wval (vals ρ (vars 0 n)) * e % p = _
    rw [Nat.mul_mod, ← he, ← Nat.mul_mod, ← Nat.mul_assoc, Nat.mul_comm _ c]

theorem add_contract (hT : TabOk P T) (hO : OrcsOk P T) (hm : P.follows .mixedOrders = true) (hf : P.funcs[f]? = some fn) (hrun : fieldRun 2 n p 1 (some ((G.zero.words 1 (vars 0 n)).words 1 (vars n n))) (runFun T d fn (argAVs false 2 n) (St.init (2 * n))) = true)
    (hp : p ≠ 0) : OrcOk P f (.aggs (.addm p) p n false 2 n) := by
  refine field_contract hT hO hm hf hrun hp (I := 1) rfl fun ρ g hW hg hlt => ?_
  rw [argv_two] at hlt ⊢
  have h1 := hlt _ List.mem_cons_self
  have h1' := hlt (vars n n) (by simp)
  rw [← Option.some.inj hg]
  refine ⟨_, val_sum, ?_, by rw [Nat.mul_one]; rfl⟩
  omega

end
end Go.Fiat

/- Straight-line programs over words: one instruction backwards; what is a multiple of 2^64 and below it is zero. -/
import Derived.Test.YtcpnimnilojooaaAy1
namespace Go.Fiat

/-- A form modulo 2^64 is given one term more. -/
def insM (l : List (Nat × Int)) (i : Nat) (c : Int) : List (Nat × Int) :=
  match decide ((coef l i + c) % 18446744073709551616 = 0) with
  | true => without l i
  | false => (i, (coef l i + c) % 18446744073709551616) :: without l i

theorem insM_val (ρ : Nat → Nat) (l : List (Nat × Int)) (i : Nat) (c : Int) : (linVal ρ (insM l i c) - (linVal ρ l + c * (ρ i : Int))) % 18446744073709551616 = 0 := by
  have h := linVal_split ρ i l
  have e : coef l i + c = (coef l i + c) / 18446744073709551616 * 18446744073709551616 + (coef l i + c) % 18446744073709551616 := by omega
  have e2 : coef l i * (ρ i : Int) + c * (ρ i : Int) = (coef l i + c) / 18446744073709551616 * (ρ i : Int) * 18446744073709551616 + (coef l i + c) % 18446744073709551616 * (ρ i : Int) := by
    rw [← Int.add_mul, e, Int.add_mul, ← e, Int.mul_right_comm]
  unfold insM
  split
  · rename_i hz
    have hz : (coef l i + c) % 18446744073709551616 = 0 := by simpa using hz
    rw [hz] at e2
    omega
  · rw [linVal]
    dsimp only
    omega

def addM (l : List (Nat × Int)) (c : Int) : Ref → List (Nat × Int)
  | .k _ => l
  | .v i => insM l i c
def cstM (c : Int) : Ref → Int
  | .k n => c * (n : Int)
  | .v _ => 0

theorem addM_val (ρ : Nat → Nat) (l : List (Nat × Int)) (c : Int) (r : Ref) : (linVal ρ (addM l c r) + cstM c r - (linVal ρ l + c * (r.val ρ : Int))) % 18446744073709551616 = 0 := by
  cases r with
  | k n => simp only [addM, cstM, Ref.val]; omega
  | v i => have := insM_val ρ l i c; simp only [addM, cstM, Ref.val]; omega

/-- Whether a form is a multiple of 2^64. -/
def zc : List Ins → List (Nat × Int) → Int → Bool
  | _, [], cst => decide (cst % 18446744073709551616 = 0)
  | [], _ :: _, _ => false
  | ins :: rest, p :: l, cst => match ins with
    | .mul d x y => match decide (coef (p :: l) d = 0) with
      | true => match decide (coef (p :: l) (d + 1) = 0) with
        | true => zc rest (p :: l) cst
        | false => match x, y with
          | .v i, .k n => zc rest (insM (without (p :: l) (d + 1)) i (coef (p :: l) (d + 1) * (n : Int))) cst
          | _, _ => false
      | false => false
    | .add d x y c => match decide (coef (p :: l) (d + 1) = 0) with
      | true => match decide (coef (p :: l) d = 0) with
        | true => zc rest (p :: l) cst
        | false => zc rest (addM (addM (addM (without (p :: l) d) (coef (p :: l) d) x) (coef (p :: l) d) y) (coef (p :: l) d) c)
            (cst + cstM (coef (p :: l) d) x + cstM (coef (p :: l) d) y + cstM (coef (p :: l) d) c)
      | false => false
    | .sub d _ _ _ => match decide (coef (p :: l) d = 0) && decide (coef (p :: l) (d + 1) = 0) with
      | true => zc rest (p :: l) cst
      | false => false
    | .plus d _ _ | .sel d _ _ _ | .shl d _ _ | .shr d _ _ | .low d _ => match decide (coef (p :: l) d = 0) with
      | true => zc rest (p :: l) cst
      | false => false
    | .less _ _ _ | .same _ _ _ | .fn _ _ _ _ _ => false

theorem mulmod (a b c : Int) (h : (a - b) % 18446744073709551616 = 0) : (c * a - c * b) % 18446744073709551616 = 0 := by
  rw [← Int.mul_sub, Int.mul_emod, h]; simp

theorem zc_val {ρ : Nat → Nat} : ∀ (is : List Ins) (l : List (Nat × Int)) (cst : Int), (∀ i ∈ is, i.sat ρ) → zc is l cst = true → (linVal ρ l + cst) % 18446744073709551616 = 0
  | is, [], cst, _, h => by
    have : cst % 18446744073709551616 = 0 := by cases is <;> simpa [zc] using h
    simp only [linVal]; omega
  | [], _ :: _, cst, _, h => by simp [zc] at h
  | ins :: rest, p :: l, cst, hs, h => by
    have hsat : ins.sat ρ := hs ins List.mem_cons_self
    have ih := fun l' c' h' => zc_val rest l' c' (fun i hi => hs i (List.mem_cons_of_mem _ hi)) h'
    unfold zc at h
    cases ins with
    | mul d x y =>
      dsimp only at h
      split at h
      · rename_i h0
        split at h
        · exact ih _ _ h
        · split at h
          · rename_i i n
            have h1 := ih _ _ h
            have h2 := insM_val ρ (without (p :: l) (d + 1)) i (coef (p :: l) (d + 1) * (n : Int))
            have h3 := linVal_split ρ (d + 1) (p :: l)
            have h4 : ρ (d + 1) = ρ i * n % 18446744073709551616 := hsat.2
            have h5 := mulmod (ρ (d + 1) : Int) ((ρ i : Int) * (n : Int)) (coef (p :: l) (d + 1)) (by rw [← Int.natCast_mul]; omega)
            have h6 : coef (p :: l) (d + 1) * (n : Int) * (ρ i : Int) = coef (p :: l) (d + 1) * ((ρ i : Int) * (n : Int)) := by rw [Int.mul_assoc, Int.mul_comm (n : Int)]
            omega
          · cases h
      · cases h
    | add d x y c =>
      dsimp only at h
      split at h
      · split at h
        · exact ih _ _ h
        · have h1 := ih _ _ h
          have h2 := addM_val ρ (without (p :: l) d) (coef (p :: l) d) x
          have h3 := addM_val ρ (addM (without (p :: l) d) (coef (p :: l) d) x) (coef (p :: l) d) y
          have h4 := addM_val ρ (addM (addM (without (p :: l) d) (coef (p :: l) d) x) (coef (p :: l) d) y) (coef (p :: l) d) c
          have h5 := linVal_split ρ d (p :: l)
          have h6 : ρ d = (x.val ρ + y.val ρ + c.val ρ) % 18446744073709551616 := hsat.1
          have h7 := mulmod (ρ d : Int) ((x.val ρ : Int) + (y.val ρ : Int) + (c.val ρ : Int)) (coef (p :: l) d) (by omega)
          rw [Int.mul_add, Int.mul_add] at h7
          omega
      · cases h
    | sub d x y c => dsimp only at h; split at h; · exact ih _ _ h
                     · cases h
    | plus d x y => dsimp only at h; split at h; · exact ih _ _ h
                    · cases h
    | sel d c x y => dsimp only at h; split at h; · exact ih _ _ h
                     · cases h
    | shl d x n => dsimp only at h; split at h; · exact ih _ _ h
                   · cases h
    | shr d x n => dsimp only at h; split at h; · exact ih _ _ h
                   · cases h
    | low d x => dsimp only at h; split at h; · exact ih _ _ h
                 · cases h
    | less d xs ys => cases h
    | same d xs ys => cases h
    | fn d n k byt args => cases h

/-- One instruction backwards. -/
def back1 (n0 ib : Nat) (rest : List Ins) (ins : Ins) (g : G) : Option G :=
  match ins with
  | .mul d x y => match decide (coef g.lin d = 0) && decide (coef g.lin (d + 1) = 0) with
    | true => some g
    | false => match decide (coef g.lin d % 18446744073709551616 = 0) with
      | true => match G.addProd { g with lin := without (without g.lin d) (d + 1) } (coef g.lin d / 18446744073709551616) x y with
        | some g' => match decide (coef g.lin (d + 1) - coef g.lin d / 18446744073709551616 = 0) with
          | true => some g'
          | false => some { g' with kept := (d + 1, coef g.lin (d + 1) - coef g.lin d / 18446744073709551616) :: g'.kept }
        | none => none
      | false => none
  | .add d x y c => match decide (coef g.lin d = 0) && decide (coef g.lin (d + 1) = 0) with
    | true => some g
    | false => match decide (coef g.lin (d + 1) % 18446744073709551616 = 0) with
      | true =>
        let γ := coef g.lin (d + 1) / 18446744073709551616
        let g' := G.addRef (G.addRef (G.addRef { g with lin := without (without g.lin d) (d + 1) } γ x) γ y) γ c
        match decide (coef g.lin d - γ = 0) with
        | true => some g'
        | false => match zc rest (addM (addM (addM [] 1 x) 1 y) 1 c) (cstM 1 x + cstM 1 y + cstM 1 c) with
          | true => some g'
          | false => some { g' with kept := (d, coef g.lin d - γ) :: g'.kept }
      | false => none
  | .plus d x y => match decide (coef g.lin d = 0) with
    | true => some g
    | false => match Nat.blt (ub n0 ib rest x + ub n0 ib rest y) 18446744073709551616 with
      | true => some (G.addRef (G.addRef { g with lin := without g.lin d } (coef g.lin d) x) (coef g.lin d) y)
      | false => none
  | .sub d x y c => match decide (coef g.lin d = 0) && decide (coef g.lin (d + 1) = 0) with
    | true => some g
    | false => match Nat.ble (ub n0 ib rest c) 1 && decide (coef g.lin d * 18446744073709551616 + coef g.lin (d + 1) = 0) with
      | true => some (G.addRef (G.addRef (G.addRef { g with lin := without (without g.lin d) (d + 1) } (coef g.lin d) x) (-coef g.lin d) y) (-coef g.lin d) c)
      | false => none
  | .shl d x n => match decide (coef g.lin d = 0) with
    | true => some g
    | false => match Nat.blt (ub n0 ib rest x * 2 ^ n) 18446744073709551616 with
      | true => some (G.addRef { g with lin := without g.lin d } (coef g.lin d * 2 ^ n) x)
      | false => none
  | .shr d _ _ | .sel d _ _ _ => match decide (coef g.lin d = 0) with
    | true => some g
    | false => none
  | .low d _ => match decide (coef g.lin d = 0) with
    | true => some g
    | false => none
  | .less _ _ _ | .same _ _ _ | .fn _ _ _ _ _ => none

theorem div_mul_of {a : Int} (h : a % 18446744073709551616 = 0) : a = a / 18446744073709551616 * 18446744073709551616 := by omega

theorem back1_val {ρ : Nat → Nat} {n0 ib : Nat} (hW : Words ρ) (hI : ∀ i, i < n0 → ρ i ≤ ib) {rest : List Ins} {ins : Ins} {g g' : G} (hw : wordy (ins :: rest) = true) (hs : ∀ i ∈ rest, i.sat ρ) (hi : ins.sat ρ)
    (h : back1 n0 ib rest ins g = some g') : g.val ρ = g'.val ρ := by
  simp only [wordy, Bool.and_eq_true] at hw
  unfold back1 at h
  cases ins with
  | mul d x y =>
    dsimp only at h
    split at h
    · rw [← Option.some.inj h]
    · split at h
      · rename_i h1
        have h1 := div_mul_of (of_decide_eq_true h1)
        generalize hγ : coef g.lin d / 18446744073709551616 = γ at *
        split at h
        · rename_i g1 hg
          have h2 := G.val_addProd ρ hg
          have h3 := linVal_split ρ d g.lin
          have h4 := linVal_split ρ (d + 1) (without g.lin d)
          have h5 : (ρ d : Int) * 18446744073709551616 + (ρ (d + 1) : Int) = (x.val ρ : Int) * (y.val ρ : Int) := by
            rw [← Int.natCast_mul]; have := hi.1; have := hi.2; omega
          have hc : coef (without g.lin d) (d + 1) = coef g.lin (d + 1) := coef_without _ _ _ (by omega)
          have h6 : γ * ((x.val ρ : Int) * (y.val ρ : Int)) = γ * 18446744073709551616 * (ρ d : Int) + γ * (ρ (d + 1) : Int) := by
            rw [← h5, Int.mul_add, Int.mul_assoc, Int.mul_comm (ρ d : Int)]
          rw [h1] at h3
          rw [hc] at h4
          split at h
          · rename_i h7
            have h7 := of_decide_eq_true h7
            rw [← Option.some.inj h, h2]
            have h8 : coef g.lin (d + 1) = γ := by omega
            rw [h8] at h4
            simp only [G.val] at *
            omega
          · rw [← Option.some.inj h]
            have h8 : (coef g.lin (d + 1) - γ) * (ρ (d + 1) : Int) = coef g.lin (d + 1) * (ρ (d + 1) : Int) - γ * (ρ (d + 1) : Int) := Int.sub_mul _ _ _
            simp only [G.val, linVal] at *
            omega
        · cases h
      · cases h
  | add d x y c =>
    dsimp only at h
    split at h
    · rw [← Option.some.inj h]
    · split at h
      · rename_i h1
        have h1 := div_mul_of (of_decide_eq_true h1)
        generalize hγ : coef g.lin (d + 1) / 18446744073709551616 = γ at *
        have h3 := linVal_split ρ d g.lin
        have h4 := linVal_split ρ (d + 1) (without g.lin d)
        have hc : coef (without g.lin d) (d + 1) = coef g.lin (d + 1) := coef_without _ _ _ (by omega)
        have h5 : (ρ (d + 1) : Int) * 18446744073709551616 + (ρ d : Int) = (x.val ρ : Int) + (y.val ρ : Int) + (c.val ρ : Int) := by
          have := hi.1; have := hi.2; omega
        have h6 : γ * (x.val ρ : Int) + γ * (y.val ρ : Int) + γ * (c.val ρ : Int) = γ * 18446744073709551616 * (ρ (d + 1) : Int) + γ * (ρ d : Int) := by
          rw [← Int.mul_add, ← Int.mul_add, ← h5, Int.mul_add, Int.mul_assoc, Int.mul_comm (ρ (d + 1) : Int)]
        have hv : (G.addRef (G.addRef (G.addRef { g with lin := without (without g.lin d) (d + 1) } γ x) γ y) γ c).val ρ + (coef g.lin d - γ) * (ρ d : Int) = g.val ρ := by
          rw [G.val_addRef, G.val_addRef, G.val_addRef]
          rw [hc, h1] at h4
          have h8 : (coef g.lin d - γ) * (ρ d : Int) = coef g.lin d * (ρ d : Int) - γ * (ρ d : Int) := Int.sub_mul _ _ _
          simp only [G.val]
          omega
        split at h
        · rename_i h7
          have h7 := of_decide_eq_true h7
          rw [← Option.some.inj h, ← hv, h7]; simp
        · split at h
          · rename_i hz
            have hz := zc_val rest _ _ hs hz
            have a1 := addM_val ρ [] 1 x
            have a2 := addM_val ρ (addM [] 1 x) 1 y
            have a3 := addM_val ρ (addM (addM [] 1 x) 1 y) 1 c
            have h9 : ρ d = 0 := by
              have := hi.1
              simp only [linVal] at a1
              omega
            rw [← Option.some.inj h, ← hv, h9]; simp
          · rw [← Option.some.inj h, ← hv]
            simp only [G.val, linVal]
            omega
      · cases h
  | plus d x y =>
    dsimp only at h
    split at h
    · rw [← Option.some.inj h]
    · split at h
      · rename_i h1
        have h1 : ub n0 ib rest x + ub n0 ib rest y < 18446744073709551616 := by simpa using h1
        rw [← Option.some.inj h, G.val_addRef, G.val_addRef]
        have h3 := linVal_split ρ d g.lin
        have u1 := ub_le hW hI rest hw.2 hs x
        have u2 := ub_le hW hI rest hw.2 hs y
        have h5 : ρ d = x.val ρ + y.val ρ := by
          have h0 : ρ d = (x.val ρ + y.val ρ) % 18446744073709551616 := hi
          omega
        have h6 : coef g.lin d * (ρ d : Int) = coef g.lin d * (x.val ρ : Int) + coef g.lin d * (y.val ρ : Int) := by
          rw [← Int.mul_add, h5]; simp
        simp only [G.val]
        omega
      · cases h
  | sub d x y c =>
    dsimp only at h
    split at h
    · rw [← Option.some.inj h]
    · split at h
      · rename_i h1
        rw [Bool.and_eq_true] at h1
        have hb : ub n0 ib rest c ≤ 1 := by simpa using h1.1
        have h1 := of_decide_eq_true h1.2
        rw [← Option.some.inj h, G.val_addRef, G.val_addRef, G.val_addRef]
        have h3 := linVal_split ρ d g.lin
        have h4 := linVal_split ρ (d + 1) (without g.lin d)
        have hc : coef (without g.lin d) (d + 1) = coef g.lin (d + 1) := coef_without _ _ _ (by omega)
        have u1 := ub_le hW hI rest hw.2 hs c
        have hw1 := hw.1
        simp only [Ins.word, Bool.and_eq_true] at hw1
        have w1 := Ref.word_val hW hw1.1.1
        have w2 := Ref.word_val hW hw1.1.2
        have h5 : (ρ d : Int) = (x.val ρ : Int) - (y.val ρ : Int) - (c.val ρ : Int) + 18446744073709551616 * (ρ (d + 1) : Int) := by
          have h6 := hi.1
          have h7 := hi.2
          split at h7 <;> omega
        have h6 : coef g.lin (d + 1) = coef g.lin d * -18446744073709551616 := by omega
        have h7 : coef g.lin d * (ρ d : Int) + coef g.lin (d + 1) * (ρ (d + 1) : Int) = coef g.lin d * (x.val ρ : Int) + -coef g.lin d * (y.val ρ : Int) + -coef g.lin d * (c.val ρ : Int) := by
          rw [h5, h6, Int.mul_assoc (coef g.lin d), Int.neg_mul, Int.neg_mul, Int.mul_add, Int.mul_sub, Int.mul_sub, Int.neg_mul, Int.mul_neg]
          omega
        rw [hc] at h4
        simp only [G.val]
        omega
      · cases h
  | shl d x n =>
    dsimp only at h
    split at h
    · rw [← Option.some.inj h]
    · split at h
      · rename_i h1
        have h1 : ub n0 ib rest x * 2 ^ n < 18446744073709551616 := by simpa using h1
        rw [← Option.some.inj h, G.val_addRef]
        have h3 := linVal_split ρ d g.lin
        have u1 := Nat.mul_le_mul_right (2 ^ n) (ub_le hW hI rest hw.2 hs x)
        have h5 : ρ d = x.val ρ * 2 ^ n := by
          have h0 : ρ d = (x.val ρ * 2 ^ n) % 18446744073709551616 := hi
          rw [Nat.mod_eq_of_lt (by omega)] at h0
          exact h0
        have h6 : coef g.lin d * (ρ d : Int) = coef g.lin d * 2 ^ n * (x.val ρ : Int) := by
          rw [h5, Int.mul_assoc, Int.natCast_mul, Int.mul_comm (2 ^ n : Int)]; simp
        simp only [G.val]
        omega
      · cases h
  | sel d c x y =>
    dsimp only at h
    split at h
    · rw [← Option.some.inj h]
    · cases h
  | shr d x n =>
    dsimp only at h
    split at h
    · rw [← Option.some.inj h]
    · cases h
  | low d x =>
    dsimp only at h
    split at h
    · rw [← Option.some.inj h]
    · cases h
  | less d xs ys => cases h
  | same d xs ys => cases h
  | fn d n k byt args => cases h

/-- A whole text backwards, the last instruction first. -/
def back (n0 ib : Nat) : List Ins → G → Option G
  | [], g => some g
  | ins :: rest, g => match back1 n0 ib rest ins g with
    | some g' => back n0 ib rest g'
    | none => none

theorem back_val {ρ : Nat → Nat} {n0 ib : Nat} (hW : Words ρ) (hI : ∀ i, i < n0 → ρ i ≤ ib) : ∀ {is : List Ins} {g g' : G}, wordy is = true → (∀ i ∈ is, i.sat ρ) → back n0 ib is g = some g' → g.val ρ = g'.val ρ
  | [], g, g', _, _, h => by rw [← Option.some.inj h]
  | ins :: rest, g, g', hw, hs, h => by
    unfold back at h
    split at h
    · rename_i g1 h1
      have hr := fun i hi => hs i (List.mem_cons_of_mem _ hi)
      rw [back1_val hW hI hw hr (hs ins List.mem_cons_self) h1]
      simp only [wordy, Bool.and_eq_true] at hw
      exact back_val hW hI hw.2 hr h
    · cases h

end Go.Fiat

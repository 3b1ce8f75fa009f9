/- Straight-line programs over words: every one has a run; numbers of several words; what a conditional subtraction gives. -/
import Derived.Test.YtcpnimnilojooaaAy2
namespace Go.Fiat

def Ref.below (n : Nat) : Ref → Bool
  | .k _ => true
  | .v i => Nat.blt i n

theorem Ref.below_val {n : Nat} {ρ ρ' : Nat → Nat} {r : Ref} (h : r.below n = true) (e : ∀ i, i < n → ρ i = ρ' i) : r.val ρ = r.val ρ' := by
  cases r with
  | k m => rfl
  | v i => exact e i (by simpa [Ref.below] using h)

/-- The instructions, the first first: each gives the next variables, of such as there are. -/
def chain : Nat → List Ins → Bool
  | _, [] => true
  | n, ins :: rest => match ins with
    | .mul d x y => Nat.beq d n && x.below n && y.below n && chain (n + 2) rest
    | .add d x y c | .sub d x y c => Nat.beq d n && x.below n && y.below n && c.below n && chain (n + 2) rest
    | .plus d x y => Nat.beq d n && x.below n && y.below n && chain (n + 1) rest
    | .sel d c x y => Nat.beq d n && x.below n && y.below n && c.below n && chain (n + 1) rest
    | .shl d x _ | .shr d x _ | .low d x => Nat.beq d n && x.below n && chain (n + 1) rest
    | .less d xs ys | .same d xs ys => Nat.beq d n && xs.all (Ref.below n) && ys.all (Ref.below n) && chain (n + 1) rest
    | .fn d m _ _ args => Nat.beq d n && args.all (fun xs => xs.all (Ref.below n)) && chain (n + m) rest

theorem vals_below {n : Nat} {ρ ρ' : Nat → Nat} : ∀ {l : List Ref}, l.all (Ref.below n) = true → (∀ i, i < n → ρ i = ρ' i) → vals ρ l = vals ρ' l
  | [], _, _ => rfl
  | r :: l, h, e => by
    rw [List.all_cons, Bool.and_eq_true] at h
    show r.val ρ :: vals ρ l = r.val ρ' :: vals ρ' l
    rw [Ref.below_val h.1 e, vals_below h.2 e]

theorem args_below {n : Nat} {ρ ρ' : Nat → Nat} {byt : Bool} : ∀ {l : List (List Ref)}, l.all (fun xs => xs.all (Ref.below n)) = true → (∀ i, i < n → ρ i = ρ' i) → (l.map fun a => aval byt (vals ρ a)) = l.map fun a => aval byt (vals ρ' a)
  | [], _, _ => rfl
  | r :: l, h, e => by
    rw [List.all_cons, Bool.and_eq_true] at h
    rw [List.map_cons, List.map_cons, vals_below h.1 e, args_below h.2 e]

def upd (ρ : Nat → Nat) (n v : Nat) : Nat → Nat := fun i => if i = n then v else ρ i

def updN (ρ : Nat → Nat) (d m : Nat) (f : Nat → Nat) : Nat → Nat := fun i => if d ≤ i ∧ i < d + m then f (i - d) else ρ i

theorem upd_lt {ρ : Nat → Nat} {n v i : Nat} (h : i < n) : upd ρ n v i = ρ i := by unfold upd; rw [if_neg (by omega)]
theorem upd_same {ρ : Nat → Nat} {n v : Nat} : upd ρ n v n = v := by unfold upd; rw [if_pos rfl]
theorem upd_words {ρ : Nat → Nat} {n v : Nat} (h : Words ρ) (hv : v < 18446744073709551616) : Words (upd ρ n v) := by
  intro i; unfold upd; split
  · exact hv
  · exact h i

theorem one_more {ρ0 : Nat → Nat} (n v : Nat) (hW : Words ρ0) (hv : v < 18446744073709551616) {S : (Nat → Nat) → Prop}
    (ih : ∀ ρ1, Words ρ1 → ∃ ρ, Words ρ ∧ (∀ i, i < n + 1 → ρ i = ρ1 i) ∧ S ρ) :
    ∃ ρ, Words ρ ∧ (∀ i, i < n → ρ i = ρ0 i) ∧ S ρ ∧ ρ n = v := by
  obtain ⟨ρ, h1, h2, h3⟩ := ih (upd ρ0 n v) (upd_words hW hv)
  exact ⟨ρ, h1, fun i hi => by rw [h2 i (by omega), upd_lt hi], h3, by rw [h2 n (by omega), upd_same]⟩

theorem two_more {ρ0 : Nat → Nat} (n v u : Nat) (hW : Words ρ0) (hv : v < 18446744073709551616) (hu : u < 18446744073709551616) {S : (Nat → Nat) → Prop}
    (ih : ∀ ρ1, Words ρ1 → ∃ ρ, Words ρ ∧ (∀ i, i < n + 2 → ρ i = ρ1 i) ∧ S ρ) :
    ∃ ρ, Words ρ ∧ (∀ i, i < n → ρ i = ρ0 i) ∧ S ρ ∧ ρ n = v ∧ ρ (n + 1) = u := by
  obtain ⟨ρ, h1, h2, h3⟩ := ih (upd (upd ρ0 n v) (n + 1) u) (upd_words (upd_words hW hv) hu)
  exact ⟨ρ, h1, fun i hi => by rw [h2 i (by omega), upd_lt (by omega), upd_lt hi], h3, by rw [h2 n (by omega), upd_lt (by omega), upd_same], by rw [h2 (n + 1) (by omega), upd_same]⟩

theorem run_exists : ∀ (l : List Ins) (n : Nat) (ρ0 : Nat → Nat), chain n l = true → wordy l = true → Words ρ0 → ∃ ρ, Words ρ ∧ (∀ i, i < n → ρ i = ρ0 i) ∧ ∀ ins ∈ l, ins.sat ρ
  | [], n, ρ0, _, _, hW => ⟨ρ0, hW, fun _ _ => rfl, fun _ h => by cases h⟩
  | ins :: rest, n, ρ0, hc, hw, hW => by
    simp only [wordy, Bool.and_eq_true] at hw
    have hw1 := hw.1
    unfold chain at hc
    cases ins with
    | mul d x y =>
      simp only [Bool.and_eq_true] at hc
      obtain ⟨⟨⟨hd, hx⟩, hy⟩, hc⟩ := hc
      have hd := Nat.eq_of_beq_eq_true hd
      subst hd
      simp only [Ins.word, Bool.and_eq_true] at hw1
      have w1 := Ref.word_val hW hw1.1
      have w2 := Ref.word_val hW hw1.2
      obtain ⟨ρ, h1, h2, h3, h4, h5⟩ := two_more d (x.val ρ0 * y.val ρ0 / 18446744073709551616) (x.val ρ0 * y.val ρ0 % 18446744073709551616) hW (Nat.div_lt_of_lt_mul (Nat.mul_lt_mul'' w1 w2)) (Nat.mod_lt _ (by omega))
        (fun ρ1 hW1 => run_exists rest (d + 2) ρ1 hc hw.2 hW1)
      refine ⟨ρ, h1, h2, fun i hi => ?_⟩
      rcases List.mem_cons.1 hi with rfl | hi
      · exact ⟨by rw [h4, Ref.below_val hx h2, Ref.below_val hy h2], by rw [h5, Ref.below_val hx h2, Ref.below_val hy h2]⟩
      · exact h3 i hi
    | add d x y c =>
      simp only [Bool.and_eq_true] at hc
      obtain ⟨⟨⟨⟨hd, hx⟩, hy⟩, hcc⟩, hc⟩ := hc
      have hd := Nat.eq_of_beq_eq_true hd
      subst hd
      simp only [Ins.word, Bool.and_eq_true] at hw1
      have w1 := Ref.word_val hW hw1.1.1
      have w2 := Ref.word_val hW hw1.1.2
      have w3 := Ref.word_val hW hw1.2
      obtain ⟨ρ, h1, h2, h3, h4, h5⟩ := two_more d ((x.val ρ0 + y.val ρ0 + c.val ρ0) % 18446744073709551616) ((x.val ρ0 + y.val ρ0 + c.val ρ0) / 18446744073709551616) hW (Nat.mod_lt _ (by omega)) (by omega)
        (fun ρ1 hW1 => run_exists rest (d + 2) ρ1 hc hw.2 hW1)
      refine ⟨ρ, h1, h2, fun i hi => ?_⟩
      rcases List.mem_cons.1 hi with rfl | hi
      · exact ⟨by rw [h4, Ref.below_val hx h2, Ref.below_val hy h2, Ref.below_val hcc h2], by rw [h5, Ref.below_val hx h2, Ref.below_val hy h2, Ref.below_val hcc h2]⟩
      · exact h3 i hi
    | sub d x y c =>
      simp only [Bool.and_eq_true] at hc
      obtain ⟨⟨⟨⟨hd, hx⟩, hy⟩, hcc⟩, hc⟩ := hc
      have hd := Nat.eq_of_beq_eq_true hd
      subst hd
      obtain ⟨ρ, h1, h2, h3, h4, h5⟩ := two_more d ((x.val ρ0 + 18446744073709551616 - y.val ρ0 - c.val ρ0) % 18446744073709551616) (if x.val ρ0 < y.val ρ0 + c.val ρ0 then 1 else 0) hW (Nat.mod_lt _ (by omega)) (by split <;> omega)
        (fun ρ1 hW1 => run_exists rest (d + 2) ρ1 hc hw.2 hW1)
      refine ⟨ρ, h1, h2, fun i hi => ?_⟩
      rcases List.mem_cons.1 hi with rfl | hi
      · exact ⟨by rw [h4, Ref.below_val hx h2, Ref.below_val hy h2, Ref.below_val hcc h2], by rw [h5, Ref.below_val hx h2, Ref.below_val hy h2, Ref.below_val hcc h2]⟩
      · exact h3 i hi
    | plus d x y =>
      simp only [Bool.and_eq_true] at hc
      obtain ⟨⟨⟨hd, hx⟩, hy⟩, hc⟩ := hc
      have hd := Nat.eq_of_beq_eq_true hd
      subst hd
      obtain ⟨ρ, h1, h2, h3, h4⟩ := one_more d ((x.val ρ0 + y.val ρ0) % 18446744073709551616) hW (Nat.mod_lt _ (by omega)) (fun ρ1 hW1 => run_exists rest (d + 1) ρ1 hc hw.2 hW1)
      refine ⟨ρ, h1, h2, fun i hi => ?_⟩
      rcases List.mem_cons.1 hi with rfl | hi
      · show ρ d = _
        rw [h4, Ref.below_val hx h2, Ref.below_val hy h2]
      · exact h3 i hi
    | sel d c x y =>
      simp only [Bool.and_eq_true] at hc
      obtain ⟨⟨⟨⟨hd, hx⟩, hy⟩, hcc⟩, hc⟩ := hc
      have hd := Nat.eq_of_beq_eq_true hd
      subst hd
      simp only [Ins.word, Bool.and_eq_true] at hw1
      have w1 := Ref.word_val hW hw1.1.2
      have w2 := Ref.word_val hW hw1.2
      have w3 := Ref.word_val hW hw1.1.1
      obtain ⟨ρ, h1, h2, h3, h4⟩ := one_more d (if c.val ρ0 = 0 then x.val ρ0 else y.val ρ0) hW (by split <;> assumption) (fun ρ1 hW1 => run_exists rest (d + 1) ρ1 hc hw.2 hW1)
      refine ⟨ρ, h1, h2, fun i hi => ?_⟩
      rcases List.mem_cons.1 hi with rfl | hi
      · show ρ d = _
        rw [h4, Ref.below_val hx h2, Ref.below_val hy h2, Ref.below_val hcc h2]
      · exact h3 i hi
    | shl d x m =>
      simp only [Bool.and_eq_true] at hc
      obtain ⟨⟨hd, hx⟩, hc⟩ := hc
      have hd := Nat.eq_of_beq_eq_true hd
      subst hd
      obtain ⟨ρ, h1, h2, h3, h4⟩ := one_more d (x.val ρ0 * 2 ^ m % 18446744073709551616) hW (Nat.mod_lt _ (by omega)) (fun ρ1 hW1 => run_exists rest (d + 1) ρ1 hc hw.2 hW1)
      refine ⟨ρ, h1, h2, fun i hi => ?_⟩
      rcases List.mem_cons.1 hi with rfl | hi
      · show ρ d = _
        rw [h4, Ref.below_val hx h2]
      · exact h3 i hi
    | shr d x m =>
      simp only [Bool.and_eq_true] at hc
      obtain ⟨⟨hd, hx⟩, hc⟩ := hc
      have hd := Nat.eq_of_beq_eq_true hd
      subst hd
      have w1 := Ref.word_val hW hw1
      obtain ⟨ρ, h1, h2, h3, h4⟩ := one_more d (x.val ρ0 / 2 ^ m) hW (Nat.lt_of_le_of_lt (Nat.div_le_self _ _) w1) (fun ρ1 hW1 => run_exists rest (d + 1) ρ1 hc hw.2 hW1)
      refine ⟨ρ, h1, h2, fun i hi => ?_⟩
      rcases List.mem_cons.1 hi with rfl | hi
      · show ρ d = _
        rw [h4, Ref.below_val hx h2]
      · exact h3 i hi
    | low d x =>
      simp only [Bool.and_eq_true] at hc
      obtain ⟨⟨hd, hx⟩, hc⟩ := hc
      have hd := Nat.eq_of_beq_eq_true hd
      subst hd
      obtain ⟨ρ, h1, h2, h3, h4⟩ := one_more d (x.val ρ0 % 256) hW (by omega) (fun ρ1 hW1 => run_exists rest (d + 1) ρ1 hc hw.2 hW1)
      refine ⟨ρ, h1, h2, fun i hi => ?_⟩
      rcases List.mem_cons.1 hi with rfl | hi
      · show ρ d = _
        rw [h4, Ref.below_val hx h2]
      · exact h3 i hi
    | less d xs ys =>
      simp only [Bool.and_eq_true] at hc
      obtain ⟨⟨⟨hd, hx⟩, hy⟩, hc⟩ := hc
      have hd := Nat.eq_of_beq_eq_true hd
      subst hd
      obtain ⟨ρ, h1, h2, h3, h4⟩ := one_more d (if wval (vals ρ0 xs) < wval (vals ρ0 ys) then 1 else 0) hW (by split <;> omega) (fun ρ1 hW1 => run_exists rest (d + 1) ρ1 hc hw.2 hW1)
      refine ⟨ρ, h1, h2, fun i hi => ?_⟩
      rcases List.mem_cons.1 hi with rfl | hi
      · show ρ d = _
        rw [h4, vals_below hx h2, vals_below hy h2]
      · exact h3 i hi
    | same d xs ys =>
      simp only [Bool.and_eq_true] at hc
      obtain ⟨⟨⟨hd, hx⟩, hy⟩, hc⟩ := hc
      have hd := Nat.eq_of_beq_eq_true hd
      subst hd
      obtain ⟨ρ, h1, h2, h3, h4⟩ := one_more d (if vals ρ0 xs = vals ρ0 ys then 1 else 0) hW (by split <;> omega) (fun ρ1 hW1 => run_exists rest (d + 1) ρ1 hc hw.2 hW1)
      refine ⟨ρ, h1, h2, fun i hi => ?_⟩
      rcases List.mem_cons.1 hi with rfl | hi
      · show ρ d = _
        rw [h4, vals_below hx h2, vals_below hy h2]
      · exact h3 i hi
    | fn d m k byt args =>
      simp only [Bool.and_eq_true] at hc
      obtain ⟨⟨hd, hx⟩, hc⟩ := hc
      have hd := Nat.eq_of_beq_eq_true hd
      subst hd
      obtain ⟨ρ, h1, h2, h3⟩ := run_exists rest (d + m) (updN ρ0 d m fun i => k.val (args.map fun a => aval byt (vals ρ0 a)) / 18446744073709551616 ^ i % 18446744073709551616) hc hw.2 (fun i => by
        unfold updN; split
        · exact Nat.mod_lt _ (by omega)
        · exact hW i)
      have h2' : ∀ i, i < d → ρ i = ρ0 i := fun i hi => by rw [h2 i (by omega)]; unfold updN; rw [if_neg (by omega)]
      refine ⟨ρ, h1, h2', fun i hi => ?_⟩
      rcases List.mem_cons.1 hi with rfl | hi
      · intro j hj
        rw [h2 (d + j) (by omega), args_below hx h2']
        unfold updN
        rw [if_pos (by omega), show d + j - d = j by omega]
      · exact h3 i hi

/-! ### Numbers of several words, the least word first -/

theorem wval_lt : ∀ l : List Nat, (∀ x ∈ l, x < 18446744073709551616) → wval l < 18446744073709551616 ^ l.length
  | [], _ => by simp [wval]
  | x :: r, h => by
    have ih := wval_lt r (fun y hy => h y (List.mem_cons_of_mem _ hy))
    have hx := h x List.mem_cons_self
    rw [wval, List.length_cons, Nat.pow_succ, Nat.mul_comm (_ ^ _)]
    omega

theorem wval_append : ∀ (l m : List Nat), wval (l ++ m) = wval l + 18446744073709551616 ^ l.length * wval m
  | [], m => by simp [wval]
  | x :: r, m => by
    rw [List.cons_append, wval, wval_append r m, wval, List.length_cons, Nat.pow_succ, Nat.mul_add, ← Nat.mul_assoc, Nat.mul_comm (_ ^ _) 18446744073709551616]
    omega

theorem wval_inj : ∀ (l m : List Nat), l.length = m.length → (∀ x ∈ l, x < 18446744073709551616) → (∀ x ∈ m, x < 18446744073709551616) → wval l = wval m → l = m
  | [], [], _, _, _, _ => rfl
  | [], _ :: _, h, _, _, _ => by simp at h
  | _ :: _, [], h, _, _, _ => by simp at h
  | x :: r, y :: s, h, hl, hm, e => by
    rw [wval, wval] at e
    have hx := hl x List.mem_cons_self
    have hy := hm y List.mem_cons_self
    have h1 : x = y := by omega
    have h2 : wval r = wval s := by omega
    rw [h1, wval_inj r s (by simpa using h) (fun z hz => hl z (List.mem_cons_of_mem _ hz)) (fun z hz => hm z (List.mem_cons_of_mem _ hz)) h2]

/-- The form 'c times the number whose words these are', put to a form. -/
def G.words (g : G) (c : Int) : List Ref → G
  | [] => g
  | r :: rs => G.words (g.addRef c r) (c * 18446744073709551616) rs

theorem G.val_words (ρ : Nat → Nat) : ∀ (rs : List Ref) (g : G) (c : Int), (g.words c rs).val ρ = g.val ρ + c * (wval (rs.map (Ref.val ρ)) : Int)
  | [], g, c => by simp [G.words, wval]
  | r :: rs, g, c => by
    rw [G.words, G.val_words ρ rs, G.val_addRef, List.map_cons, wval, Int.natCast_add, Int.natCast_mul, Int.mul_add, Int.mul_assoc]
    have e : ((18446744073709551616 : Nat) : Int) = (18446744073709551616 : Int) := rfl
    rw [e]
    omega

/-- The form of a product of two numbers of several words, put to a form. -/
def G.times (g : G) (c : Int) (x : Ref) : List Ref → Option G
  | [] => some g
  | y :: ys => match g.addProd c x y with
    | some g' => G.times g' (c * 18446744073709551616) x ys
    | none => none

theorem G.val_times (ρ : Nat → Nat) (x : Ref) : ∀ (ys : List Ref) (g g' : G) (c : Int), g.times c x ys = some g' → g'.val ρ = g.val ρ + c * ((x.val ρ : Int) * (wval (ys.map (Ref.val ρ)) : Int))
  | [], g, g', c, h => by rw [← Option.some.inj h]; simp [wval]
  | y :: ys, g, g', c, h => by
    unfold G.times at h
    split at h
    · rename_i g1 h1
      rw [G.val_times ρ x ys _ _ _ h, G.val_addProd ρ h1, List.map_cons, wval, Int.natCast_add, Int.natCast_mul, Int.mul_add, Int.mul_add, ← Int.mul_assoc (x.val ρ : Int) ((18446744073709551616 : Nat) : Int), Int.mul_comm (x.val ρ : Int) ((18446744073709551616 : Nat) : Int), Int.mul_assoc c, Int.mul_assoc ((18446744073709551616 : Nat) : Int)]
      have e : ((18446744073709551616 : Nat) : Int) = (18446744073709551616 : Int) := rfl
      rw [e]
      omega
    · cases h

def G.product (g : G) (c : Int) : List Ref → List Ref → Option G
  | [], _ => some g
  | x :: xs, ys => match g.times c x ys with
    | some g' => G.product g' (c * 18446744073709551616) xs ys
    | none => none

theorem G.val_product (ρ : Nat → Nat) : ∀ (xs ys : List Ref) (g g' : G) (c : Int), g.product c xs ys = some g' → g'.val ρ = g.val ρ + c * ((wval (xs.map (Ref.val ρ)) : Int) * (wval (ys.map (Ref.val ρ)) : Int))
  | [], ys, g, g', c, h => by rw [← Option.some.inj h]; simp [wval]
  | x :: xs, ys, g, g', c, h => by
    unfold G.product at h
    split at h
    · rename_i g1 h1
      rw [G.val_product ρ xs ys _ _ _ h, G.val_times ρ x ys _ _ _ h1, List.map_cons, wval, Int.natCast_add, Int.natCast_mul, Int.add_mul, Int.mul_add, Int.mul_assoc c, Int.mul_assoc ((18446744073709551616 : Nat) : Int)]
      have e : ((18446744073709551616 : Nat) : Int) = (18446744073709551616 : Int) := rfl
      rw [e]
      omega
    · cases h

end Go.Fiat

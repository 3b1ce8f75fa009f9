/- Straight-line programs over words: a number that is reduced by one conditional subtraction, as all functions of the fields end. -/
import Derived.Test.YtcpnimnilojooaaAy3
namespace Go.Fiat

def selsF (bb : Nat) : List Nat → List Ref → List Ref → List Ins
  | o :: os, d :: ds, t :: ts => .sel o (.v bb) d t :: selsF bb os ds ts
  | _, _, _ => []

theorem sels_val {ρ : Nat → Nat} {bb : Nat} : ∀ (os : List Nat) (ds ts : List Ref), os.length = ds.length → os.length = ts.length → (∀ i ∈ selsF bb os ds ts, i.sat ρ) →
    os.map ρ = if ρ bb = 0 then ds.map (Ref.val ρ) else ts.map (Ref.val ρ)
  | [], [], [], _, _, _ => by simp
  | [], _ :: _, _, h, _, _ => by simp at h
  | [], [], _ :: _, _, h, _ => by simp at h
  | _ :: _, [], _, h, _, _ => by simp at h
  | _ :: _, _ :: _, [], _, h, _ => by simp at h
  | o :: os, d :: ds, t :: ts, h1, h2, hs => by
    have ih := sels_val os ds ts (by simpa using h1) (by simpa using h2) (fun i hi => hs i (List.mem_cons_of_mem _ hi))
    have h0 : ρ o = if ρ bb = 0 then d.val ρ else t.val ρ := hs _ List.mem_cons_self
    rw [List.map_cons, ih, h0]
    split <;> simp

def G.zero : G := { lin := [], cst := 0, quad := [], kept := [] }
theorem G.val_zero (ρ : Nat → Nat) : G.zero.val ρ = 0 := rfl

/-- Two forms without kept variables are the same. -/
def G.eqv (a b : G) : Bool := allZero (a.lin ++ negL b.lin).length (a.lin ++ negL b.lin) && decide (a.cst = b.cst) && allZero (a.quad ++ negL b.quad).length (a.quad ++ negL b.quad)

theorem G.eqv_val (ρ : Nat → Nat) {a b : G} (h : a.eqv b = true) : a.val ρ - linVal ρ a.kept = b.val ρ - linVal ρ b.kept := by
  simp only [G.eqv, Bool.and_eq_true, decide_eq_true_eq] at h
  have h1 := linEq_val ρ h.1.1
  have h2 := linEq_val (quadOf ρ) h.2
  simp only [G.val]
  have := h.1.2
  omega

/-- Each variable once. -/
def norm : Nat → List (Nat × Int) → List (Nat × Int)
  | _, [] => []
  | 0, p :: r => p :: r
  | f + 1, p :: r => (p.1, p.2 + coef r p.1) :: norm f (without r p.1)

theorem norm_val (ρ : Nat → Nat) : ∀ (f : Nat) (l : List (Nat × Int)), linVal ρ (norm f l) = linVal ρ l
  | f, [] => by cases f <;> rfl
  | 0, _ :: _ => rfl
  | f + 1, p :: r => by
    rw [norm, linVal, norm_val ρ f, linVal, linVal_split ρ p.1 r]
    dsimp only
    rw [Int.add_mul]
    omega

/-- The kept variables' coefficients are multiples of p: how many times p together. -/
def keptSum (p : Int) : List (Nat × Int) → Option Nat
  | [] => some 0
  | x :: r => match decide (x.2 % p = 0) && decide (0 ≤ x.2 / p) with
    | true => match keptSum p r with
      | some s => some ((x.2 / p).toNat + s)
      | none => none
    | false => none

theorem keptSum_val {ρ : Nat → Nat} (hW : Words ρ) {p : Int} : ∀ {l : List (Nat × Int)} {s : Nat}, keptSum p l = some s → ∃ M : Nat, linVal ρ l = p * (M : Int) ∧ M ≤ s * 18446744073709551615
  | [], s, h => ⟨0, by simp [linVal], by omega⟩
  | x :: r, s, h => by
    unfold keptSum at h
    split at h
    · rename_i hx
      simp only [Bool.and_eq_true, decide_eq_true_eq] at hx
      split at h
      · rename_i s' hs
        obtain ⟨M, h1, h2⟩ := keptSum_val hW hs
        have h3 := Option.some.inj h
        refine ⟨(x.2 / p).toNat * ρ x.1 + M, ?_, ?_⟩
        · rw [linVal, h1, Int.natCast_add, Int.natCast_mul, Int.mul_add, Int.toNat_of_nonneg hx.2, ← Int.mul_assoc, Int.mul_ediv_cancel' (Int.dvd_of_emod_eq_zero hx.1)]
        · rw [← h3, Nat.add_mul]
          have := Nat.mul_le_mul_left (x.2 / p).toNat (show ρ x.1 ≤ 18446744073709551615 by have := hW x.1; omega)
          omega
      · cases h
    · cases h

/-- What a function of a field ends with, and what it begins with: all that is to be looked at. -/
structure Fn where
  n0 : Nat
  ib : Nat
  n : Nat
  p : Nat
  bb : Nat
  os : List Nat
  ds : List Ref
  ts : List Ref
  dt : Ref
  tt : Ref
  subs : List Ins
  main : List Ins

def Fn.out (f : Fn) : List Ins := (selsF f.bb f.os f.ds f.ts).reverse ++ (f.subs ++ f.main)

def Fn.subOk (f : Fn) : Bool :=
  match back f.n0 f.ib f.subs (G.words { G.zero with lin := [(f.bb, -(18446744073709551616 ^ (f.n + 1) : Int))] } 1 (f.ds ++ [f.dt])) with
  | some g => match g.kept with
    | [] => G.eqv g { G.words G.zero 1 (f.ts ++ [f.tt]) with cst := (G.words G.zero 1 (f.ts ++ [f.tt])).cst - (f.p : Int) }
    | _ :: _ => false
  | none => false

/-- `R` times the number ahead of the conditional subtraction is `q` and a multiple of p, of less than `R` times. -/
def Fn.mainOk (f : Fn) (R : Nat) (q : Option G) : Bool :=
  match back f.n0 f.ib f.main (G.words G.zero (R : Int) (f.ts ++ [f.tt])), q with
  | some g, some g' => match g'.kept with
    | [] => decide (g.cst = g'.cst) && allZero (g.quad ++ negL g'.quad).length (g.quad ++ negL g'.quad) && (match keptSum (f.p : Int) (norm (g.lin ++ negL g'.lin).length (g.lin ++ negL g'.lin) ++ g.kept) with
      | some s => Nat.blt (s * 18446744073709551615) R
      | none => false)
    | _ :: _ => false
  | _, _ => false

def Fn.formOk (f : Fn) : Bool :=
  Nat.beq f.os.length f.n && Nat.beq f.ds.length f.n && Nat.beq f.ts.length f.n && wordy f.subs && wordy f.main && f.dt.word && f.ds.all Ref.word && f.ts.all Ref.word && Nat.blt 0 f.p && Nat.ble f.p (18446744073709551616 ^ f.n) && Nat.ble (ub f.n0 f.ib f.subs (.v f.bb)) 1

theorem wval_refs {ρ : Nat → Nat} (hW : Words ρ) {l : List Ref} (h : l.all Ref.word = true) : wval (l.map (Ref.val ρ)) < 18446744073709551616 ^ l.length := by
  have := wval_lt (l.map (Ref.val ρ)) (fun x hx => by
    obtain ⟨r, hr, rfl⟩ := List.mem_map.1 hx
    exact Ref.word_val hW (List.all_eq_true.1 h r hr))
  simpa using this

/-- The conditional subtraction. -/
theorem cond_sub {N p D T dt tt bb V : Nat} (hD : D < N) (hdt : dt < 18446744073709551616) (hbb : bb ≤ 1) (hp : p ≤ N) (hV : V = T + N * tt) (h2 : V < 2 * p)
    (h : (V : Int) - p = D + N * dt - N * 18446744073709551616 * bb) : ∃ k : Nat, (if bb = 0 then D else T) < p ∧ V = (if bb = 0 then D else T) + k * p := by
  have hbb' : bb = 0 ∨ bb = 1 := by omega
  rcases hbb' with rfl | rfl
  · have hdt0 : dt = 0 := by
      rcases Nat.eq_zero_or_pos dt with h0 | h0
      · exact h0
      · have h3 : N ≤ N * dt := Nat.le_mul_of_pos_right N h0
        have h4 : (N : Int) * dt = ((N * dt : Nat) : Int) := by simp
        rw [h4] at h
        simp at h
        omega
    subst hdt0
    simp at h
    refine ⟨1, ?_, ?_⟩ <;> simp <;> omega
  · have h3 : N * dt ≤ N * 18446744073709551615 := Nat.mul_le_mul_left N (by omega)
    have h4 : (N : Int) * dt = ((N * dt : Nat) : Int) := by simp
    have htt0 : tt = 0 := by
      rcases Nat.eq_zero_or_pos tt with h0 | h0
      · exact h0
      · have h5 : N ≤ N * tt := Nat.le_mul_of_pos_right N h0
        rw [h4] at h
        omega
    subst htt0
    rw [h4] at h
    refine ⟨0, ?_, ?_⟩ <;> simp at hV ⊢ <;> omega

theorem Fn.sound {ρ : Nat → Nat} {f : Fn} {R : Nat} {q : Option G} {g' : G} (hq : q = some g') (hW : Words ρ) (hI : ∀ i, i < f.n0 → ρ i ≤ f.ib) (hs : ∀ i ∈ f.out, i.sat ρ)
    (hf : f.formOk = true) (h1 : f.subOk = true) (h2 : f.mainOk R q = true) (Q : Nat) (hQ : g'.val ρ = (Q : Int)) (hQp : Q < (R + 1) * f.p) :
    wval (f.os.map ρ) < f.p ∧ wval (f.os.map ρ) * R % f.p = Q % f.p := by
  subst hq
  simp only [Fn.formOk, Bool.and_eq_true] at hf
  obtain ⟨⟨⟨⟨⟨⟨⟨⟨⟨⟨f1, f2⟩, f3⟩, f4⟩, f5⟩, f6⟩, f7⟩, f8⟩, f9⟩, f10⟩, f11⟩ := hf
  have f1 := Nat.eq_of_beq_eq_true f1
  have f2 := Nat.eq_of_beq_eq_true f2
  have f3 := Nat.eq_of_beq_eq_true f3
  have f9 : 0 < f.p := by simpa using f9
  have f10 : f.p ≤ 18446744073709551616 ^ f.n := by simpa using f10
  have f11 : ub f.n0 f.ib f.subs (.v f.bb) ≤ 1 := by simpa using f11
  have hsel := sels_val f.os f.ds f.ts (f1.trans f2.symm) (f1.trans f3.symm) (fun i hi => hs i (List.mem_append_left _ (List.mem_reverse.2 hi)))
  have hsub : ∀ i ∈ f.subs, i.sat ρ := fun i hi => hs i (List.mem_append_right _ (List.mem_append_left _ hi))
  have hmain : ∀ i ∈ f.main, i.sat ρ := fun i hi => hs i (List.mem_append_right _ (List.mem_append_right _ hi))
  have hbb : ρ f.bb ≤ 1 := Nat.le_trans (ub_le hW hI f.subs f4 hsub (.v f.bb)) f11
  have hD := wval_refs hW f7
  have hT := wval_refs hW f8
  rw [f2] at hD
  rw [f3] at hT
  have hdt := Ref.word_val hW f6
  -- the conditional subtraction's equation
  have e1 : (wval ((f.ts ++ [f.tt]).map (Ref.val ρ)) : Int) - f.p = wval ((f.ds ++ [f.dt]).map (Ref.val ρ)) - 18446744073709551616 ^ (f.n + 1) * (ρ f.bb : Int) := by
    unfold Fn.subOk at h1
    split at h1
    · rename_i g hg
      split at h1
      · rename_i hk
        have a := back_val hW hI f4 hsub hg
        have b := G.eqv_val ρ h1
        rw [G.val_words] at a
        have c := G.val_words ρ (f.ts ++ [f.tt]) G.zero 1
        have k1 : linVal ρ g.kept = 0 := by rw [hk]; rfl
        have k2 : linVal ρ (G.words G.zero 1 (f.ts ++ [f.tt])).kept = 0 := by
          have : ∀ (l : List Ref) (g : G) (c : Int), (g.words c l).kept = g.kept := by
            intro l
            induction l with
            | nil => intro g c; rfl
            | cons r rs ih =>
              intro g c
              rw [G.words, ih]
              cases r <;> rfl
          rw [this]; rfl
        simp only [G.val, G.zero, linVal] at a b c
        simp only [G.zero] at k2
        rw [k1] at b
        rw [k2] at b c
        rw [k1] at a
        rw [Int.neg_mul] at a
        omega
      · cases h1
    · cases h1
  -- the number's own equation
  obtain ⟨M, e2, hM⟩ : ∃ M : Nat, (R : Int) * (wval ((f.ts ++ [f.tt]).map (Ref.val ρ)) : Int) = (Q : Int) + f.p * (M : Int) ∧ M < R := by
    unfold Fn.mainOk at h2
    split at h2
    · rename_i g g1 hg hg1
      have hgg := Option.some.inj hg1
      subst hgg
      split at h2
      · rename_i hk
        rw [Bool.and_eq_true, Bool.and_eq_true] at h2
        obtain ⟨⟨h3, h3'⟩, h4⟩ := h2
        have h3 := of_decide_eq_true h3
        have h3' := linEq_val (quadOf ρ) h3'
        split at h4
        · rename_i s hsum
          obtain ⟨M, m1, m2⟩ := keptSum_val hW hsum
          have h4 : s * 18446744073709551615 < R := by simpa using h4
          refine ⟨M, ?_, by omega⟩
          have a := back_val hW hI f5 hmain hg
          rw [G.val_words, G.val_zero] at a
          have k2 : linVal ρ g'.kept = 0 := by rw [hk]; rfl
          rw [linVal_append, norm_val, linVal_append, linVal_neg] at m1
          rw [← m1]
          simp only [G.val] at a hQ
          omega
        · cases h4
      · cases h2
    · cases h2
  -- the rest
  have ht : wval ((f.ts ++ [f.tt]).map (Ref.val ρ)) = wval (f.ts.map (Ref.val ρ)) + 18446744073709551616 ^ f.n * f.tt.val ρ := by
    rw [List.map_append, wval_append]; simp [wval, f3]
  have hd : wval ((f.ds ++ [f.dt]).map (Ref.val ρ)) = wval (f.ds.map (Ref.val ρ)) + 18446744073709551616 ^ f.n * f.dt.val ρ := by
    rw [List.map_append, wval_append]; simp [wval, f2]
  generalize hV : wval ((f.ts ++ [f.tt]).map (Ref.val ρ)) = V at *
  have e2' : R * V = Q + f.p * M := by
    have : ((R * V : Nat) : Int) = ((Q + f.p * M : Nat) : Int) := by simpa using e2
    exact Int.ofNat_inj.1 this
  have hV2 : V < 2 * f.p := by
    rcases Nat.lt_or_ge V (2 * f.p) with h | h
    · exact h
    · exfalso
      have h5 : R * (2 * f.p) ≤ R * V := Nat.mul_le_mul_left R h
      have h6 : f.p * (M + 1) ≤ f.p * R := Nat.mul_le_mul_left _ hM
      rw [Nat.mul_add] at h6
      have h7 : R * (2 * f.p) = 2 * (R * f.p) := by rw [Nat.mul_left_comm]
      have h8 : f.p * R = R * f.p := Nat.mul_comm _ _
      rw [Nat.add_mul] at hQp
      omega
  obtain ⟨k, c1, c2⟩ := cond_sub hD hdt hbb f10 ht hV2 (by
    rw [e1, hd]
    rw [Int.pow_succ]
    simp)
  have hv : wval (f.os.map ρ) = if ρ f.bb = 0 then wval (f.ds.map (Ref.val ρ)) else wval (f.ts.map (Ref.val ρ)) := by
    rw [hsel]; split <;> rfl
  rw [← hv] at c1 c2
  refine ⟨c1, ?_⟩
  rw [c2] at e2'
  generalize wval (f.os.map ρ) = o at *
  have e3 : o * R + f.p * (k * R) = Q + f.p * M := by
    rw [← e2', Nat.mul_add, Nat.mul_comm o R, Nat.mul_left_comm R k f.p, Nat.mul_comm R f.p, Nat.mul_left_comm k f.p R]
  have := congrArg (· % f.p) e3
  simpa using this

end Go.Fiat

/- From a run of the executor to a contract: a function of arrays; a law. -/
import Derived.Test.YtcpnimnilojooaaSy8
import Derived.Test.YtcpnimnilojooaaAy4
namespace Go.Fiat
open Go

def argv (m len : Nat) : List (List Ref) := (List.range m).map fun j => vars (j * len) len
def argAVs (byt : Bool) (m len : Nat) : List AV := (argv m len).map fun xs => .agg (xs.map fun r => (!byt, r))
def env (len : Nat) (vs : List (List Nat)) : Nat → Nat := fun i => (vs.getD (i / len) []).getD (i % len) 0

theorem vals_env {len m : Nat} {vs : List (List Nat)} {ρ : Nat → Nat} (hm : vs.length = m) (hl : ∀ xs ∈ vs, xs.length = len) (hρ : ∀ i, i < m * len → ρ i = env len vs i) : (argv m len).map (vals ρ) = vs := by
  subst hm
  apply List.ext_getElem (by simp [argv])
  intro j h1 h2
  simp only [argv, List.map_map, List.getElem_map, List.getElem_range, Function.comp]
  have hj : j < vs.length := h2
  have hlj := hl _ (List.getElem_mem hj)
  apply List.ext_getElem (by simp [vals, vars, hlj])
  intro i h3 h4
  have hi : i < len := by simpa [vals, vars] using h3
  simp only [vals, vars, List.getElem_map, List.getElem_range, Ref.val]
  have hlt : j * len + i < vs.length * len := by
    have : (j + 1) * len ≤ vs.length * len := Nat.mul_le_mul_right len hj
    rw [Nat.add_mul] at this; omega
  rw [hρ _ hlt]
  unfold env
  rw [show (j * len + i) / len = j by rw [Nat.mul_comm, Nat.mul_add_div (by omega), Nat.div_eq_of_lt hi]; rfl, show (j * len + i) % len = i by rw [Nat.mul_comm, Nat.mul_add_mod, Nat.mod_eq_of_lt hi]]
  simp [List.getD_eq_getElem?_getD, hj, h4]

theorem env_lt {len B : Nat} (hB : 0 < B) {vs : List (List Nat)} (h : ∀ xs ∈ vs, ∀ x ∈ xs, x < B) (i : Nat) : env len vs i < B := by
  unfold env
  rw [List.getD_eq_getElem?_getD, List.getD_eq_getElem?_getD]
  cases h1 : vs[i / len]? with
  | none => simpa using hB
  | some xs =>
    simp only [Option.getD_some]
    cases h2 : xs[i % len]? with
    | none => simpa using hB
    | some x => exact h xs (List.mem_of_getElem? h1) x (List.mem_of_getElem? h2)

theorem lim_le (byt : Bool) : lim byt ≤ 18446744073709551616 := by cases byt <;> decide
theorem lim_pos (byt : Bool) : 0 < lim byt := by cases byt <;> decide

theorem conc_args (ρ β : Nat → Nat) (byt : Bool) (l : List (List Ref)) : (l.map fun xs => AV.agg (xs.map fun r => (!byt, r))).map (AV.conc ρ β) = (l.map (vals ρ)).map fun xs => Value.agg (rowOf byt xs) := by
  rw [List.map_map, List.map_map]
  apply List.map_congr_left
  intro xs _
  show Value.agg _ = Value.agg _
  rw [row_refs]

theorem args_ok {ρ : Nat → Nat} {byt : Bool} {m len : Nat} (h : ∀ i, i < m * len → ρ i < lim byt) : ∀ x ∈ argAVs byt m len, x.ok ρ 0 := by
  intro x hx
  unfold argAVs argv at hx
  obtain ⟨xs, hxs, rfl⟩ := List.mem_map.1 hx
  obtain ⟨j, hj, rfl⟩ := List.mem_map.1 hxs
  have hj := List.mem_range.1 hj
  intro y hy
  obtain ⟨r, hr, rfl⟩ := List.mem_map.1 hy
  unfold vars at hr
  obtain ⟨i, hi, rfl⟩ := List.mem_map.1 hr
  have hi := List.mem_range.1 hi
  have hlt : j * len + i < m * len := by
    have : (j + 1) * len ≤ m * len := Nat.mul_le_mul_right len hj
    rw [Nat.add_mul] at this; omega
  have := h _ hlt
  cases byt <;> exact this

section
variable {P : Program} {T : Tab} {f : FuncId} {fn : Func} {d p len m n : Nat} {byt : Bool} {k : Kind} {L : List (Option AV × St)} {os : List Ref} {out : List Ins}

/-- A function that is run from arrays. -/
theorem run_args (hT : TabOk P T) (hO : OrcsOk P T) (hm : P.follows .mixedOrders = true) (hf : P.funcs[f]? = some fn) (h : runFun T d fn (argAVs byt m len) (St.init (m * len)) = some L)
    (hsub : ∀ x ∈ L, ∀ i ∈ x.2.out, i ∈ out) (hc : chain (m * len) out.reverse = true) (hw : wordy out.reverse = true) (vs : List (List Nat)) (w : World) (hm' : vs.length = m) (hvs : ∀ xs ∈ vs, xs.length = len ∧ ∀ x ∈ xs, x < lim byt) :
    ∃ ρ, Words ρ ∧ (∀ i, i < m * len → ρ i < lim byt) ∧ (∀ i ∈ out, i.sat ρ) ∧ (argv m len).map (vals ρ) = vs ∧
      Calls P f (vs.map fun xs => Value.agg (rowOf byt xs)).toArray w fun e w' => Keeps w w' ∧ ∃ v x, x ∈ L ∧ e = .returned v ∧ (∀ av, x.1 = some av → v = av.conc ρ (blk []) ∧ av.ok ρ 0) ∧ FA ρ x.2 := by
  have henv := env_lt (len := len) (lim_pos byt) (fun xs hxs => (hvs xs hxs).2)
  obtain ⟨ρ, hW, hag, hsat⟩ := run_exists out.reverse (m * len) (env len vs) hc hw (fun i => Nat.lt_of_lt_of_le (henv i) (lim_le byt))
  have hin : ∀ i, i < m * len → ρ i < lim byt := fun i hi => by rw [hag i hi]; exact henv i
  have hv := vals_env hm' (fun xs hxs => (hvs xs hxs).1) hag
  have hs : ∀ i ∈ out, i.sat ρ := fun i hi => hsat i (List.mem_reverse.2 hi)
  refine ⟨ρ, hW, hin, hs, hv, ?_⟩
  have hcall := call_plain hT hO hm hf h (ρ := ρ) (args_ok hin) (fun x hx i hi => hs i (hsub x hx i hi)) w
  unfold argAVs at hcall
  rw [conc_args, hv] at hcall
  exact hcall

theorem aggs_of_run (hT : TabOk P T) (hO : OrcsOk P T) (hm : P.follows .mixedOrders = true) (hf : P.funcs[f]? = some fn) (h : runFun T d fn (argAVs byt m len) (St.init (m * len)) = some L)
    (hL : ∀ x ∈ L, x.1 = some (.agg (words os)) ∧ ∀ i ∈ x.2.out, i ∈ out) (hc : chain (m * len) out.reverse = true) (hw : wordy out.reverse = true)
    (hval : ∀ ρ, Words ρ → (∀ i, i < m * len → ρ i < lim byt) → (∀ i ∈ out, i.sat ρ) → (∀ a ∈ argv m len, p = 0 ∨ aval byt (vals ρ a) < p) → vals ρ os = toW n (k.val ((argv m len).map fun a => aval byt (vals ρ a)))) :
    OrcOk P f (.aggs k p len byt m n) := by
  intro vs w hm' hvs
  obtain ⟨ρ, hW, hin, hs, hv, hcall⟩ := run_args hT hO hm hf h (fun x hx => (hL x hx).2) hc hw vs w hm' (fun xs hxs => ⟨(hvs xs hxs).1, (hvs xs hxs).2.1⟩)
  refine hcall.mono fun e w' ⟨hk, v, x, hx, he, hav, _⟩ => ⟨?_, hk⟩
  obtain ⟨h1, _⟩ := hav _ (hL x hx).1
  have h2 := hval ρ hW hin hs (fun a ha => (hvs (vals ρ a) (by rw [← hv]; exact List.mem_map.2 ⟨a, ha, rfl⟩)).2.2)
  have h3 : ((argv m len).map fun a => aval byt (vals ρ a)) = vs.map (aval byt) := by rw [← hv, List.map_map]; rfl
  rw [he, h1]
  show Ending.returned (.agg _) = _
  rw [row_words, h2, h3]

/-- A law: on every way that the facts allow the answer is true. -/
theorem law_of_run (hT : TabOk P T) (hO : OrcsOk P T) (hm : P.follows .mixedOrders = true) (hf : P.funcs[f]? = some fn) (h : runFun T d fn (argAVs byt m len) (St.init (m * len)) = some L)
    (hsub : ∀ x ∈ L, ∀ i ∈ x.2.out, i ∈ out) (hc : chain (m * len) out.reverse = true) (hw : wordy out.reverse = true)
    (hval : ∀ ρ, Words ρ → (∀ i, i < m * len → ρ i < lim byt) → (∀ i ∈ out, i.sat ρ) → ∀ x ∈ L, (∀ y ∈ x.2.pc, (!(Nat.beq (ρ y.1) 0)) = y.2) → ∃ neg r, x.1 = some (.bool neg r) ∧ truth ρ neg r = true)
    (vs : List (List Nat)) (w : World) (hm' : vs.length = m) (hvs : ∀ xs ∈ vs, xs.length = len ∧ ∀ x ∈ xs, x < lim byt) :
    Calls P f (vs.map fun xs => Value.agg (rowOf byt xs)).toArray w fun e w' => e = .returned (.bool true) ∧ Keeps w w' := by
  obtain ⟨ρ, hW, hin, hs, hv, hcall⟩ := run_args hT hO hm hf h hsub hc hw vs w hm' hvs
  refine hcall.mono fun e w' ⟨hk, v, x, hx, he, hav, F⟩ => ⟨?_, hk⟩
  obtain ⟨neg, r, h1, h2⟩ := hval ρ hW hin hs x hx F.pc
  obtain ⟨h3, _⟩ := hav _ h1
  rw [he, h3]
  show Ending.returned (.bool (truth ρ neg r)) = _
  rw [h2]

end

theorem toW_of {n v : Nat} {l : List Nat} (hl : l.length = n) (hw : ∀ x ∈ l, x < 18446744073709551616) (h : wval l = v) : l = toW n v := by
  have h1 := wval_lt l hw
  apply wval_inj l _ (by rw [toW_length, hl]) hw (toW_lt n v)
  rw [wval_toW, ← h, Nat.mod_eq_of_lt (by rw [← hl]; exact h1)]

/-- The form of bytes. -/
def G.bytes (g : G) (c : Int) : List Ref → G
  | [] => g
  | r :: rs => G.bytes (g.addRef c r) (c * 256) rs

theorem G.val_bytes (ρ : Nat → Nat) : ∀ (rs : List Ref) (g : G) (c : Int), (g.bytes c rs).val ρ = g.val ρ + c * (bval (vals ρ rs) : Int)
  | [], g, c => by simp [G.bytes, vals, bval]
  | r :: rs, g, c => by
    rw [G.bytes, G.val_bytes ρ rs, G.val_addRef]
    show _ = g.val ρ + c * ((bval (r.val ρ :: vals ρ rs) : Nat) : Int)
    rw [bval, Int.natCast_add, Int.natCast_mul, Int.mul_add, Int.mul_assoc]
    have e : ((256 : Nat) : Int) = (256 : Int) := rfl
    rw [e]; omega

/-- The words that come out are the bytes' number. -/
def bytesOk (len : Nat) (os : List Ref) (out : List Ins) : Bool :=
  match back len 255 out (G.words G.zero 1 os) with
  | some g => match g.kept, (G.bytes G.zero 1 (vars 0 len)).kept with
    | [], [] => G.eqv g (G.bytes G.zero 1 (vars 0 len))
    | _, _ => false
  | none => false

theorem bytesOk_val {len : Nat} {os : List Ref} {out : List Ins} (h : bytesOk len os out = true) (hwd : wordy out = true) {ρ : Nat → Nat} (hW : Words ρ) (hin : ∀ i, i < len → ρ i < 256) (hs : ∀ i ∈ out, i.sat ρ) :
    wval (vals ρ os) = bval (vals ρ (vars 0 len)) := by
  unfold bytesOk at h
  split at h
  · rename_i g hg
    split at h
    · rename_i h1 h2
      have a := back_val hW (fun i hi => by have := hin i hi; omega) hwd hs hg
      have b := G.eqv_val ρ h
      rw [h1, h2] at b
      rw [G.val_words, G.val_zero] at a
      rw [G.val_bytes, G.val_zero] at b
      have : linVal ρ [] = 0 := rfl
      rw [this] at b
      have e : vals ρ os = os.map (Ref.val ρ) := rfl
      rw [e]
      omega
    · cases h
  · cases h

end Go.Fiat

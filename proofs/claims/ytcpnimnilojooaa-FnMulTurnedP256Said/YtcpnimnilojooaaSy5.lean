/- A symbolic executor for code over words: what its state says of a world; what is asked of the functions that are not entered. -/
import Derived.Test.YtcpnimnilojooaaSy4
import Derived.RowKit3
namespace Go.Fiat
open Go

/-- Nothing that was there has turned. -/
structure Keeps (w w' : World) : Prop where
  os : w'.os = w.os
  tape : w'.tape = w.tape
  output : w'.output = w.output
  size : w.heap.size ≤ w'.heap.size
  block : ∀ k, k < w.heap.size → w'.heap[k]? = w.heap[k]?
  frozen : ∀ a, w'.frozen? a = w.frozen? a

theorem Keeps.refl (w : World) : Keeps w w := ⟨rfl, rfl, rfl, Nat.le_refl _, fun _ _ => rfl, fun _ => rfl⟩
theorem Keeps.trans {a b c : World} (h : Keeps a b) (k : Keeps b c) : Keeps a c :=
  ⟨k.os.trans h.os, k.tape.trans h.tape, k.output.trans h.output, Nat.le_trans h.size k.size, fun i hi => (k.block i (Nat.lt_of_lt_of_le hi h.size)).trans (h.block i hi), fun a => (k.frozen a).trans (h.frozen a)⟩
theorem Keeps.alloc (w : World) (c : Array Value) (t : Nat) : Keeps w (w.alloc (.cells c t (0, 0))) :=
  ⟨rfl, rfl, rfl, by simp, fun k hk => by show (w.heap.push _)[k]? = _; rw [Array.getElem?_push, if_neg (by omega)], fun a => RowKit.frozen?_alloc_cells w c t a⟩
theorem Keeps.drew (w : World) : Keeps w { w with drawn := w.drawn + 1 } := ⟨rfl, rfl, rfl, Nat.le_refl _, fun _ _ => rfl, fun _ => rfl⟩

/-- What the state says of the world. -/
structure MM (C : Ctx) (s : St) (bl : List Nat) (w : World) : Prop where
  len : bl.length = s.mem.length
  inj : ∀ j k, j < bl.length → k < bl.length → blk bl j = blk bl k → j = k
  mem : ∀ k b, s.mem[k]? = some b → w.heap[blk bl k]? = some (.cells (b.2.map (sv C.ρ)).toArray b.1 (0, 0)) ∧ ∀ x ∈ b.2, sOk C.ρ x
  new : ∀ k, k < bl.length → C.w0.heap.size ≤ blk bl k
  keeps : Keeps C.w0 w

/-- A world that is as another but for one block. -/
structure Turned (w w' : World) (k : Nat) (o : Obj) : Prop where
  at_ : w'.heap[k]? = some o
  size : w'.heap.size = w.heap.size
  other : ∀ j, j ≠ k → w'.heap[j]? = w.heap[j]?
  os : w'.os = w.os
  tape : w'.tape = w.tape
  output : w'.output = w.output
  frozen : ∀ a, w'.frozen? a = w.frozen? a

theorem blk_append {bl : List Nat} {b k : Nat} (h : k < bl.length) : blk (bl ++ [b]) k = blk bl k := by
  simp [blk, List.getD_eq_getElem?_getD, List.getElem?_append_left h]
theorem blk_last {bl : List Nat} {b : Nat} : blk (bl ++ [b]) bl.length = b := by
  simp [blk, List.getD_eq_getElem?_getD]

theorem conc_append {ρ : Nat → Nat} {bl : List Nat} {b : Nat} {av : AV} (h : av.ok ρ bl.length) : av.conc ρ (blk (bl ++ [b])) = av.conc ρ (blk bl) := by
  cases av with
  | cell k off => simp only [AV.conc]; rw [blk_append h]
  | slice k len => simp only [AV.conc]; rw [blk_append h]
  | _ => rfl

section
variable {C : Ctx} {T : Tab} {H : Handler} {s s' : St} {bl : List Nat} {a : Act} {w w' : World} {o : Oper} {L : List St}

theorem MM.same (W : MM C s bl w) (h : s'.mem = s.mem) : MM C s' bl w := ⟨by rw [h]; exact W.len, W.inj, by rw [h]; exact W.mem, W.new, W.keeps⟩

theorem MM.at_ (W : MM C s bl w) {k : Nat} {b : Nat × List (Bool × Ref)} (hb : s.mem[k]? = some b) : k < bl.length ∧ blk bl k < w.heap.size := by
  have h1 : k < s.mem.length := (List.getElem?_eq_some_iff.1 hb).1
  refine ⟨by rw [W.len]; exact h1, ?_⟩
  have h2 := (W.mem k b hb).1
  exact (Array.getElem?_eq_some_iff.1 h2).1

theorem MM.cell (W : MM C s bl w) {k off : Nat} {b : Nat × List (Bool × Ref)} {x : Bool × Ref} (hb : s.mem[k]? = some b) (hx : b.2[off]? = some x) :
    w.cell? ⟨blk bl k, off, none⟩ = some ((AV.ofS x).conc C.ρ (blk bl)) ∧ sOk C.ρ x ∧ w.frozen? ⟨blk bl k, off, none⟩ = false := by
  obtain ⟨h1, h2⟩ := W.mem k b hb
  refine ⟨?_, h2 x (List.mem_of_getElem? hx), ?_⟩
  · rw [AV.conc_ofS]; simp [World.cell?, h1, hx]
  · simp [World.frozen?, h1]

/-- The world has gone on; nothing known has turned. -/
theorem MM.keep (W : MM C s bl w) (hk : Keeps w w') : MM C s bl w' :=
  ⟨W.len, W.inj, fun k b hb => ⟨by rw [hk.block _ (W.at_ hb).2]; exact (W.mem k b hb).1, (W.mem k b hb).2⟩, W.new, W.keeps.trans hk⟩

/-- A new block is known. -/
theorem MM.more (W : MM C s bl w) (hk : Keeps w w') {b t : Nat} {l : List (Bool × Ref)} (hb : w.heap.size ≤ b) (hw : w'.heap[b]? = some (.cells (l.map (sv C.ρ)).toArray t (0, 0))) (hl : ∀ x ∈ l, sOk C.ρ x) :
    MM C { s with mem := s.mem ++ [(t, l)] } (bl ++ [b]) w' := by
  have hlt : ∀ k, k < bl.length → blk bl k < w.heap.size := fun k h => by
    obtain ⟨x, hx⟩ : ∃ x, s.mem[k]? = some x := ⟨_, List.getElem?_eq_getElem (by rw [← W.len]; exact h)⟩
    exact (W.at_ hx).2
  refine ⟨by simp [W.len], fun j k hj hk' e => ?_, fun k x hx => ?_, fun k hk' => ?_, W.keeps.trans hk⟩
  · simp only [List.length_append, List.length_cons, List.length_nil] at hj hk'
    rcases Nat.lt_or_ge j bl.length with h1 | h1 <;> rcases Nat.lt_or_ge k bl.length with h2 | h2
    · rw [blk_append h1, blk_append h2] at e; exact W.inj j k h1 h2 e
    · have h3 : k = bl.length := by omega
      subst h3
      rw [blk_append h1, blk_last] at e
      have := hlt j h1; omega
    · have h3 : j = bl.length := by omega
      subst h3
      rw [blk_append h2, blk_last] at e
      have := hlt k h2; omega
    · omega
  · rw [List.getElem?_append] at hx
    split at hx
    · rename_i h1
      rw [blk_append (by rw [W.len]; exact h1), hk.block _ (W.at_ hx).2]
      exact W.mem k x hx
    · rename_i h1
      have hk0 : k = s.mem.length := by
        have := (List.getElem?_eq_some_iff.1 hx).1
        simp at this; omega
      subst hk0
      simp at hx
      subst hx
      rw [← W.len, blk_last]
      exact ⟨hw, hl⟩
  · simp only [List.length_append, List.length_cons, List.length_nil] at hk'
    rcases Nat.lt_or_ge k bl.length with h1 | h1
    · rw [blk_append h1]; exact W.new k h1
    · have h3 : k = bl.length := by omega
      subst h3
      rw [blk_last]
      exact Nat.le_trans W.keeps.size hb

theorem MF.more (M : MF C s bl a) (hl : bl.length = s.mem.length) (x : Nat × List (Bool × Ref)) (b : Nat) : MF C { s with mem := s.mem ++ [x] } (bl ++ [b]) a :=
  ⟨M.size, M.defers, fun t av h => by
    obtain ⟨h1, h2⟩ := M.tm t av h
    exact ⟨by rw [conc_append (by rw [hl]; exact h2)]; exact h1, h2.mono (by simp)⟩⟩

theorem updBlk_spec : ∀ {m m' : List (Nat × List (Bool × Ref))} {k : Nat} {g : List (Bool × Ref) → Option (List (Bool × Ref))}, updBlk m k g = some m' →
    ∃ b l, m[k]? = some b ∧ g b.2 = some l ∧ m'.length = m.length ∧ ∀ j, m'[j]? = if j = k then some (b.1, l) else m[j]?
  | [], m', k, g, h => by simp [updBlk] at h
  | b :: r, m', 0, g, h => by
    unfold updBlk at h
    split at h
    · rename_i l hl
      have h1 := Option.some.inj h
      subst h1
      refine ⟨b, l, rfl, hl, rfl, fun j => ?_⟩
      cases j with
      | zero => simp
      | succ j => simp
    · cases h
  | b :: r, m', k + 1, g, h => by
    unfold updBlk at h
    split at h
    · rename_i r' hr
      have h1 := Option.some.inj h
      subst h1
      obtain ⟨b', l, h2, h3, h4, h5⟩ := updBlk_spec hr
      refine ⟨b', l, by simpa using h2, h3, by simp [h4], fun j => ?_⟩
      cases j with
      | zero => simp
      | succ j => simpa using h5 j
    · cases h

/-- A block is turned. -/
theorem MM.turn (W : MM C s bl w) {k : Nat} {g : List (Bool × Ref) → Option (List (Bool × Ref))} {m : List (Nat × List (Bool × Ref))} {b : Nat × List (Bool × Ref)} {l : List (Bool × Ref)}
    (h : updBlk s.mem k g = some m) (hb : s.mem[k]? = some b) (hl : g b.2 = some l) (hok : ∀ x ∈ l, sOk C.ρ x) (hw : Turned w w' (blk bl k) (.cells (l.map (sv C.ρ)).toArray b.1 (0, 0))) :
    MM C { s with mem := m } bl w' := by
  obtain ⟨b', l', hb', hl', hlen, hm⟩ := updBlk_spec h
  have e1 : b = b' := Option.some.inj (hb.symm.trans hb')
  subst e1
  have e2 : l = l' := Option.some.inj (hl.symm.trans hl')
  subst e2
  have hkl := (W.at_ hb).1
  refine ⟨by rw [W.len]; exact hlen.symm, W.inj, fun j x hj => ?_, W.new, ⟨hw.os.trans W.keeps.os, hw.tape.trans W.keeps.tape, hw.output.trans W.keeps.output, by rw [hw.size]; exact W.keeps.size, fun j hj => ?_, fun a => (hw.frozen a).trans (W.keeps.frozen a)⟩⟩
  · simp only [hm] at hj
    split at hj
    · rename_i hjk
      subst hjk
      have := Option.some.inj hj
      subst this
      exact ⟨hw.at_, hok⟩
    · rename_i hjk
      obtain ⟨h1, h2⟩ := W.mem j x hj
      exact ⟨(hw.other _ (fun e => hjk (W.inj j k (W.at_ hj).1 hkl e))).trans h1, h2⟩
  · rw [hw.other j (by have := W.new k hkl; omega)]
    exact W.keeps.block j hj

theorem turned_setCell {w : World} {k off : Nat} {c : Array Value} {t : Nat} {v : Value} (h : w.heap[k]? = some (.cells c t (0, 0))) :
    Turned w (w.setCell ⟨k, off, none⟩ v) k (.cells (c.setIfInBounds off v) t (0, 0)) := by
  refine ⟨?_, by simp, fun j hj => ?_, rfl, rfl, rfl, fun a => World.frozen?_setCell _ _ _ _⟩
  · simp [World.setCell, Array.getElem?_modify, h]
  · simp only [World.setCell, Array.getElem?_modify]
    rw [if_neg (by omega)]

/-- A row of cells is stored from the place i on. -/
theorem run_storeCells {P : Program} {k t : Nat} : ∀ (vs : List Value) (i : Nat) (c : Array Value) (w : World), (∀ v ∈ vs, v.oneCell' = true) → w.heap[k]? = some (.cells c t (0, 0)) → i + vs.length ≤ c.size →
    ∃ w', (storeCells ⟨k, 0, none⟩ vs i).run P w = .ok () w' ∧ ∃ c', Turned w w' k (.cells c' t (0, 0)) ∧ c'.size = c.size ∧ (∀ j, j < i → c'[j]? = c[j]?) ∧ (∀ j, j < vs.length → c'[i + j]? = vs[j]?) ∧ ∀ j, i + vs.length ≤ j → c'[j]? = c[j]?
  | [], i, c, w, _, h, _ => ⟨w, by simp [storeCells], c, ⟨h, rfl, fun _ _ => rfl, rfl, rfl, rfl, fun _ => rfl⟩, rfl, fun _ _ => rfl, fun j hj => by simp at hj, fun _ _ => rfl⟩
  | v :: vs, i, c, w, hv, h, hi => by
    have hadd : (⟨k, 0, none⟩ : Addr).add i = ⟨k, i, none⟩ := by unfold Addr.add; split <;> simp_all
    have hi' : i < c.size := by simp at hi; omega
    have hc : w.cell? ⟨k, i, none⟩ = some c[i] := by simp [World.cell?, h, hi']
    have hf : w.frozen? ⟨k, i, none⟩ = false := by simp [World.frozen?, h]
    have T1 := turned_setCell (off := i) (v := v) h
    obtain ⟨w', hrun, c', T2, hsz, hlo, hmid, hhi⟩ := run_storeCells (P := P) vs (i + 1) (c.setIfInBounds i v) (w.setCell ⟨k, i, none⟩ v) (fun u hu => hv u (List.mem_cons_of_mem _ hu)) T1.at_ (by simp at hi ⊢; omega)
    refine ⟨w', ?_, c', ⟨T2.at_, T2.size.trans T1.size, fun j hj => (T2.other j hj).trans (T1.other j hj), T2.os.trans T1.os, T2.tape.trans T1.tape, T2.output.trans T1.output, fun a => (T2.frozen a).trans (T1.frozen a)⟩, by simp [hsz], fun j hj => ?_, fun j hj => ?_, fun j hj => ?_⟩
    · have hs := run_store P w ⟨k, i, none⟩ v .plain (hv v List.mem_cons_self)
      simp only [storeCells, Sem.run_bind, hadd, hs, hc, hf, Bool.false_eq_true, if_false, Result.andThen_ok, hrun]
    · rw [hlo j (by omega)]
      exact Array.getElem?_setIfInBounds_ne (by omega)
    · cases j with
      | zero =>
        rw [Nat.add_zero, hlo i (by omega)]
        simp [hi']
      | succ j =>
        have := hmid j (by simpa using hj)
        rw [show i + (j + 1) = i + 1 + j by omega, this]
        simp
    · simp only [List.length_cons] at hj
      rw [hhi j (by omega)]
      exact Array.getElem?_setIfInBounds_ne (by omega)

theorem oneCell_sv (ρ : Nat → Nat) (x : Bool × Ref) : (sv ρ x).oneCell' = true := rfl

theorem run_storeRow {P : Program} {t k : Nat} {w : World} {c : Array Value} {ty : Nat} {l : List (Bool × Ref)} {ρ : Nat → Nat} (hs : ((P.info? t).map fun i => i.size) = some l.length) (h : w.heap[k]? = some (.cells c ty (0, 0))) (hc : c.size = l.length) :
    ∃ w', (Instr.storeAt t (.pointer (some ⟨k, 0, none⟩)) (.agg (l.map (sv ρ)).toArray)).run P w = .ok () w' ∧ Turned w w' k (.cells (l.map (sv ρ)).toArray ty (0, 0)) := by
  obtain ⟨w', hrun, c', T1, hsz, -, hmid, -⟩ := run_storeCells (P := P) (l.map (sv ρ)) 0 c w (fun v hv => by obtain ⟨x, -, rfl⟩ := List.mem_map.1 hv; exact oneCell_sv ρ x) h (by simp [hc])
  have e : c' = (l.map (sv ρ)).toArray := by
    apply Array.ext'
    apply List.ext_getElem?
    intro j
    rcases Nat.lt_or_ge j l.length with hj | hj
    · have := hmid j (by simpa using hj)
      simpa using this
    · rw [List.getElem?_eq_none (by simp [hsz, hc]; omega), List.getElem?_eq_none (by simpa using hj)]
  subst e
  refine ⟨w', ?_, T1⟩
  simp only [Instr.storeAt, Instr.sureAddr, storeVar, Sem.run_bind, Sem.run_pure, Result.andThen_ok, run_sizeOf' hs, Value.cells]
  simp [hrun]

theorem run_storeAt1 {P : Program} {t : Nat} (hs : ((P.info? t).map fun i => i.size) = some 1) {w : World} {ad : Addr} {k : IntKind} {n : Int} {old : Value} (hc : w.cell? ad = some old) (hf : w.frozen? ad = false) :
    (Instr.storeAt t (.pointer (some ad)) (.int k n)).run P w = .ok () (w.setCell ad (.int k n)) := by
  simp [Instr.storeAt, Instr.sureAddr, storeVar, run_sizeOf' hs, Value.cells, storeCells, Addr.add, store, Sem.run, hc, hf]

theorem run_alloc1 {P : Program} {t n : Nat} {z : Value} (hz : ((P.info? t).map fun i => (i.zero, i.size)) = some (some z, n)) (w : World) :
    (Instr.alloc t true (.tuple #[])).run P w = .ok (.pointer (some ⟨w.heap.size, 0, none⟩)) (w.alloc (.cells z.cells t)) := by
  simp [Instr.alloc, run_zeroOf hz, newVar, newRow]

theorem set_map (ρ : Nat → Nat) (l : List (Bool × Ref)) (off : Nat) (x : Bool × Ref) : ((l.set off x).map (sv ρ)).toArray = ((l.map (sv ρ)).toArray).setIfInBounds off (sv ρ x) := by
  simp [List.map_set]

theorem heap_new (w : World) (o : Obj) : (w.alloc o).heap[w.heap.size]? = some o := by
  show (w.heap.push o)[w.heap.size]? = some o
  simp

end

/-! ### What is asked of the functions that are not entered -/

def rowOf (byt : Bool) (l : List Nat) : Array Value := (l.map fun x => Value.int (match byt with | true => .u8 | false => .u64) (x : Nat)).toArray
def toW (n v : Nat) : List Nat := (List.range n).map fun i => v / 18446744073709551616 ^ i % 18446744073709551616
def lim (byt : Bool) : Nat := match byt with | true => 256 | false => 18446744073709551616
def Held (w : World) (b : Nat) (byt : Bool) (xs : List Nat) : Prop := ∃ ty, w.heap[b]? = some (.cells (rowOf byt xs) ty (0, 0))
def sl (b n : Nat) : Value := .slice (some ⟨b, 0, none⟩) n n
def Enters' (P : Program) (f : FuncId) : Prop := ∃ fn c, P.funcs[f]? = some fn ∧ (fn.name == "runtime.NumGoroutine") = false ∧ fn.body = some c
/-- A slice over a new block comes back. -/
def Gives (w : World) (ty : Nat) (xs : List Nat) (e : Ending) (w' : World) : Prop :=
  ∃ b, e = .returned (sl b xs.length) ∧ w.heap.size ≤ b ∧ w'.heap[b]? = some (.cells (rowOf false xs) ty (0, 0)) ∧ Keeps w w'

def OrcOk (P : Program) (f : FuncId) : Orc → Prop
  | .aggs k p len byt m n => ∀ (vs : List (List Nat)) (w : World), vs.length = m → (∀ xs ∈ vs, xs.length = len ∧ (∀ x ∈ xs, x < lim byt) ∧ (p = 0 ∨ aval byt xs < p)) →
      Calls P f (vs.map fun xs => Value.agg (rowOf byt xs)).toArray w fun e w' => e = .returned (.agg (rowOf false (toW n (k.val (vs.map (aval byt)))))) ∧ Keeps w w'
  | .slis k p m n ty => ∀ (vs : List (List Nat × Nat)) (ms : List Nat) (bm : Nat) (w : World), vs.length = m → (∀ v ∈ vs, v.1.length = n ∧ (∀ x ∈ v.1, x < 18446744073709551616) ∧ wval v.1 < p ∧ Held w v.2 false v.1) →
      ms.length = n → (∀ x ∈ ms, x < 18446744073709551616) → wval ms = p → Held w bm false ms →
      Calls P f ((vs.map fun v => sl v.2 n) ++ [sl bm n]).toArray w (Gives w ty (toW n (k.val (vs.map fun v => wval v.1))))
  | .less => ∀ (xs ys : List Nat) (bx by_ : Nat) (w : World), xs.length = ys.length → xs.length < 65536 → (∀ x ∈ xs, x < 18446744073709551616) → (∀ x ∈ ys, x < 18446744073709551616) → Held w bx false xs → Held w by_ false ys →
      Calls P f #[sl bx xs.length, sl by_ xs.length] w fun e w' => e = .returned (.bool (decide (wval xs < wval ys))) ∧ Keeps w w'
  | .same => ∀ (xs ys : List Nat) (bx by_ : Nat) (w : World), xs.length = ys.length → xs.length < 65536 → (∀ x ∈ xs, x < 18446744073709551616) → (∀ x ∈ ys, x < 18446744073709551616) → Held w bx false xs → Held w by_ false ys →
      Calls P f #[sl bx xs.length, sl by_ xs.length] w fun e w' => e = .returned (.bool (decide (xs = ys))) ∧ Keeps w w'
  | .consts l ty => (∀ x ∈ l, x < 18446744073709551616) ∧ ∀ w, Calls P f #[] w (Gives w ty l)
  | .one ty => ∀ (n : Nat) (w : World), 0 < n → n < 65536 → Calls P f #[.int .i64 (n : Nat)] w (Gives w ty (1 :: List.replicate (n - 1) 0))
  | .ofB ty => ∀ (xs : List Nat) (bx n : Nat) (w : World), xs.length ≤ 8 * n → n < 65536 → (∀ x ∈ xs, x < 256) → Held w bx true xs → Calls P f #[sl bx xs.length, .int .i64 (n : Nat)] w (Gives w ty (toW n (bval xs)))

end Go.Fiat

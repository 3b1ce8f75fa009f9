/- A symbolic executor for code over words: what its state says of a frame and of a world; operations that do not look at the world. -/
import Derived.Test.YtcpnimnilojooaaSy2
namespace Go.Fiat
open Go

/-- What the tables say of types and of the functions that the model stands in for, or that are entered. -/
structure TabOk (P : Program) (T : Tab) : Prop where
  arr : ∀ t n k, (t, n, k) ∈ T.arr → ∃ e, P.underlying t = some (.array n e) ∧ P.underlying e = some (.int (match k with | true => .u64 | false => .u8)) ∧ ((P.info? e).map fun i => i.size) = some 1 ∧
    ((P.info? t).map fun i => (i.zero, i.size)) = some (some (.agg (Array.replicate n (zeroOf k))), n) ∧ P.eqGuardType P.depth t = false
  word : ∀ t, t ∈ T.word → P.underlying t = some (.int .u64) ∧ ((P.info? t).map fun i => (i.zero, i.size)) = some (some (.int .u64 0), 1)
  byte : ∀ t, t ∈ T.byte → P.underlying t = some (.int .u8) ∧ ((P.info? t).map fun i => (i.zero, i.size)) = some (some (.int .u8 0), 1)
  mul : ∀ f, f + 1 = T.mul → ∀ x y : Nat, x < 18446744073709551616 → y < 18446744073709551616 → ∀ w, (callFunc f #[.int .u64 x, .int .u64 y]).run P w = .ok (.enter f #[.int .u64 x, .int .u64 y]) w ∧
    Calls P f #[.int .u64 x, .int .u64 y] w fun e w' => e = .returned (.tuple #[.int .u64 ((x * y / 18446744073709551616 : Nat) : Int), .int .u64 ((x * y % 18446744073709551616 : Nat) : Int)]) ∧ w' = w
  addF : ∀ f, f + 1 = T.addF → ∀ (x y c : Nat), c ≤ 1 → ∀ w, (callFunc f #[.int .u64 x, .int .u64 y, .int .u64 c]).run P w =
      .ok (.value (.tuple #[.int .u64 (((x + y + c) % 18446744073709551616 : Nat) : Int), .int .u64 (((x + y + c) / 18446744073709551616 : Nat) : Int)])) w
  subF : ∀ f, f + 1 = T.subF → ∀ (x y c : Nat), c ≤ 1 → ∀ w, (callFunc f #[.int .u64 x, .int .u64 y, .int .u64 c]).run P w =
      .ok (.value (.tuple #[.int .u64 (((x + 18446744073709551616 - y - c) % 18446744073709551616 : Nat) : Int), .int .u64 ((if x < y + c then 1 else 0 : Nat) : Int)])) w
  cmov : ∀ f, f + 1 = T.cmov → ∀ (a : Addr) (c x y : Nat) (old : Value) (w : World), c ≤ 1 → x < 18446744073709551616 → y < 18446744073709551616 → w.cell? a = some old → w.frozen? a = false →
    (callFunc f #[.pointer (some a), .int .u64 c, .int .u64 x, .int .u64 y]).run P w = .ok (.enter f #[.pointer (some a), .int .u64 c, .int .u64 x, .int .u64 y]) w ∧
    Calls P f #[.pointer (some a), .int .u64 c, .int .u64 x, .int .u64 y] w fun e w' => e = .returned (.tuple #[]) ∧ w' = w.setCell a (.int .u64 ((if c = 0 then x else y : Nat) : Int))
  funs : ∀ f fn, (f, fn) ∈ T.funs → P.funcs[f]? = some fn ∧ (fn.name == "runtime.NumGoroutine") = false

structure Ctx where
  P : Program
  ρ : Nat → Nat
  w0 : World

def sOk (ρ : Nat → Nat) (x : Bool × Ref) : Prop := x.2.val ρ < match x.1 with | true => 18446744073709551616 | false => 256

def AV.ok (ρ : Nat → Nat) (m : Nat) : AV → Prop
  | .w r => r.val ρ < 18446744073709551616
  | .b r => r.val ρ < 256
  | .pair r s => r.val ρ < 18446744073709551616 ∧ s.val ρ < 18446744073709551616
  | .cell k _ => k < m
  | .agg l => ∀ x ∈ l, sOk ρ x
  | .bool _ _ => True
  | .slice k _ => k < m
  | .int _ => True

theorem ok_ofS {ρ : Nat → Nat} {m : Nat} {x : Bool × Ref} (h : sOk ρ x) : (AV.ofS x).ok ρ m := by
  obtain ⟨k, r⟩ := x
  cases k <;> exact h

theorem AV.ok.mono {ρ : Nat → Nat} {m m' : Nat} {av : AV} (h : av.ok ρ m) (hm : m ≤ m') : av.ok ρ m' := by
  cases av <;> first | exact h | exact Nat.lt_of_lt_of_le h hm

/-- Which block of the world a known block is. -/
def blk (bl : List Nat) (k : Nat) : Nat := bl.getD k 0

/-- The facts that a state has gathered. -/
structure FA (ρ : Nat → Nat) (s : St) : Prop where
  bits : ∀ i, s.cb.testBit i = true → ρ i ≤ 1
  pc : ∀ x ∈ s.pc, (!(Nat.beq (ρ x.1) 0)) = x.2

/-- What the state says of the frame. -/
structure MF (C : Ctx) (s : St) (bl : List Nat) (a : Act) : Prop where
  size : a.tmps.size = s.N
  defers : a.defers = []
  tm : ∀ t av, s.tm.get t = some av → a.tmps[t]? = some (av.conc C.ρ (blk bl)) ∧ av.ok C.ρ s.mem.length

section
variable {C : Ctx} {T : Tab} {H : Handler} {s s' : St} {bl : List Nat} {a : Act} {w : World} {o : Oper} {L : List St}

theorem MF.eval (M : MF C s bl a) {x : Operand} {av : AV} (h : opnd s x = some av) : a.eval x = av.conc C.ρ (blk bl) ∧ av.ok C.ρ s.mem.length := by
  unfold opnd at h
  split at h
  · rename_i t
    obtain ⟨h1, h2⟩ := M.tm t av h
    exact ⟨by simp [Act.eval, Array.getD_eq_getD_getElem?, h1], h2⟩
  · rename_i n
    split at h
    · rename_i h1
      have h2 : AV.w (.k n) = av := Option.some.inj h
      subst h2
      exact ⟨rfl, by simpa [AV.ok, Ref.val] using h1⟩
    · cases h
  · rename_i n
    have h2 : AV.int n = av := Option.some.inj h
    subst h2
    exact ⟨rfl, trivial⟩
  · have h2 : AV.bool false (.k 1) = av := Option.some.inj h
    subst h2
    exact ⟨rfl, trivial⟩
  · have h2 : AV.bool false (.k 0) = av := Option.some.inj h
    subst h2
    exact ⟨rfl, trivial⟩
  · cases h

theorem MF.evals (M : MF C s bl a) : ∀ {xs : List Operand} {l : List AV}, opnds s xs = some l → xs.map a.eval = l.map (AV.conc C.ρ (blk bl)) ∧ ∀ av ∈ l, av.ok C.ρ s.mem.length
  | [], l, h => by
    have := Option.some.inj h
    subst this
    exact ⟨rfl, fun _ h => by cases h⟩
  | x :: r, l, h => by
    unfold opnds at h
    split at h
    · rename_i av l' h1 h2
      have := Option.some.inj h
      subst this
      obtain ⟨e1, o1⟩ := M.eval h1
      obtain ⟨e2, o2⟩ := MF.evals M h2
      refine ⟨by rw [List.map_cons, List.map_cons, e1, e2], fun av hav => ?_⟩
      rcases List.mem_cons.1 hav with rfl | h3
      · exact o1
      · exact o2 av h3
    · cases h

theorem eval_nat {x : Operand} {n : Nat} (h : natOf x = some n) : ∃ k, a.eval x = .int k (n : Int) := by
  unfold natOf at h
  split at h
  · rename_i k m
    exact ⟨k, by rw [← Option.some.inj h]; rfl⟩
  · cases h

/-- A temporary is given its value (or one that is not kept). -/
theorem MF.put (M : MF C s bl a) {dst : Option Tmp} {av : Option AV} {v : Value} (hav : ∀ x, av = some x → v = x.conc C.ρ (blk bl) ∧ x.ok C.ρ s.mem.length) (h : s.put dst av = some s') : MF C s' bl (a.put dst v) := by
  unfold St.put at h
  split at h
  · rename_i d
    split at h
    · rename_i hd
      have hd' : d < s.N := by simpa using hd
      have h2 := Option.some.inj h
      subst h2
      refine ⟨by simp [Act.put, M.size], M.defers, fun t av' ht => ?_⟩
      rcases Tree.get_set _ _ _ _ _ _ ht with ⟨h1, h2⟩ | ⟨h1, h2⟩
      · subst h1
        obtain ⟨h3, h4⟩ := hav av' h2
        exact ⟨by rw [h3]; simp [Act.put, M.size, hd'], h4⟩
      · obtain ⟨h3, h4⟩ := M.tm t av' h2
        exact ⟨by simp only [Act.put]; rw [Array.getElem?_setIfInBounds_ne (Ne.symm h1)]; exact h3, h4⟩
    · cases h
  · rw [← Option.some.inj h]; exact M

theorem put_same {s s' : St} {dst : Option Tmp} {av : Option AV} (h : s.put dst av = some s') : s'.out = s.out ∧ s'.mem = s.mem ∧ s'.cb = s.cb ∧ s'.pc = s.pc ∧ s'.n = s.n := by
  unfold St.put at h
  split at h
  · split at h
    · rw [← Option.some.inj h]; exact ⟨rfl, rfl, rfl, rfl, rfl⟩
    · cases h
  · rw [← Option.some.inj h]; exact ⟨rfl, rfl, rfl, rfl, rfl⟩

theorem FA.put (F : FA C.ρ s) {dst : Option Tmp} {av : Option AV} (h : s.put dst av = some s') : FA C.ρ s' := by
  obtain ⟨-, -, h1, h2, -⟩ := put_same h
  exact ⟨by rw [h1]; exact F.bits, by rw [h2]; exact F.pc⟩

theorem put1_some {s : St} {dst : Option Tmp} {av : Option AV} (h : s.put1 dst av = some L) : ∃ s', s.put dst av = some s' ∧ L = [s'] := by
  unfold St.put1 at h
  split at h
  · rename_i s' hs; exact ⟨s', hs, (Option.some.inj h).symm⟩
  · cases h

/-- The one state behind. -/
theorem put1_ok (M : MF C s bl a) (F : FA C.ρ s) {dst : Option Tmp} {av : AV} (hav : av.ok C.ρ s.mem.length) (h : s.put1 dst (some av) = some L) :
    ∃ s', s' ∈ L ∧ MF C s' bl (a.put dst (av.conc C.ρ (blk bl))) ∧ FA C.ρ s' ∧ s'.mem = s.mem := by
  obtain ⟨s', h1, rfl⟩ := put1_some h
  exact ⟨s', List.mem_singleton.2 rfl, M.put (fun x hx => by have := Option.some.inj hx; subst this; exact ⟨rfl, hav⟩) h1, F.put h1, (put_same h1).2.1⟩

/-- More has been given out. -/
theorem MF.emit (M : MF C s bl a) (n cb : Nat) (pc : List (Nat × Bool)) (out : List Ins) : MF C { s with n := n, cb := cb, pc := pc, out := out } bl a := ⟨M.size, M.defers, M.tm⟩
theorem FA.emit (F : FA C.ρ s) (N : Nat) (tm : Tree) (mem : List (Nat × List (Bool × Ref))) (n : Nat) (out : List Ins) : FA C.ρ { s with N := N, tm := tm, mem := mem, n := n, out := out } := ⟨F.bits, F.pc⟩

theorem FA.bit (F : FA C.ρ s) (n i : Nat) (out : List Ins) (hi : C.ρ i ≤ 1) : FA C.ρ { s with n := n, cb := s.cb ||| 2 ^ i, out := out } :=
  ⟨fun j hj => by
    simp only [Nat.testBit_or, Bool.or_eq_true] at hj
    rcases hj with hj | hj
    · exact F.bits j hj
    · rw [Nat.testBit_two_pow] at hj
      have : i = j := by simpa using hj
      rw [← this]; exact hi, F.pc⟩

theorem FA.isBit (F : FA C.ρ s) {r : Ref} (h : isBit s r = true) : r.val C.ρ ≤ 1 := by
  cases r with
  | k n => simpa [Fiat.isBit, Ref.val] using h
  | v i => exact F.bits i h

/-- One of the two ways is the one that is gone. -/
theorem split_ok (F : FA C.ρ s) (neg : Bool) (r : Ref) : ∃ pc, (truth C.ρ neg r, { s with pc := pc }) ∈ splitB s neg r ∧ FA C.ρ { s with pc := pc } := by
  unfold splitB truth
  cases r with
  | k n => exact ⟨s.pc, List.mem_singleton.2 rfl, F⟩
  | v i =>
    have e : (Ref.v i).val C.ρ = C.ρ i := rfl
    rw [e]
    dsimp only
    split
    · rename_i b hb
      have := F.pc _ (look_mem hb)
      dsimp only at this
      exact ⟨s.pc, by rw [this]; exact List.mem_singleton.2 rfl, F⟩
    · cases hd : !(Nat.beq (C.ρ i) 0) with
      | true => exact ⟨(i, true) :: s.pc, List.mem_cons_self, F.bits, fun x hx => by
          rcases List.mem_cons.1 hx with rfl | hx
          · exact hd
          · exact F.pc x hx⟩
      | false => exact ⟨(i, false) :: s.pc, List.mem_cons_of_mem _ (List.mem_singleton.2 rfl), F.bits, fun x hx => by
          rcases List.mem_cons.1 hx with rfl | hx
          · exact hd
          · exact F.pc x hx⟩

theorem run_underlying' {P : Program} {t : TypeId} {d : TypeDesc} (h : P.underlying t = some d) (w : World) : (underlying t).run P w = .ok d w := by
  simp [underlying, h]

theorem isAgg_word {P : Program} {t : TypeId} {k : IntKind} (h : P.underlying t = some (.int k)) (w : World) : (isAgg t).run P w = .ok false w := by
  simp [isAgg, run_underlying' h]

theorem run_sizeOf' {P : Program} {t : TypeId} {n : Nat} (h : ((P.info? t).map fun i => i.size) = some n) (w : World) : (sizeOf t).run P w = .ok n w := by
  cases hi : P.info? t with
  | none => rw [hi] at h; simp at h
  | some i => rw [hi] at h; simp only [Option.map_some, Option.some.injEq] at h; simp [sizeOf, typeInfo, hi, h]

theorem size_of_both {P : Program} {t n : Nat} {z : Option Value} (h : ((P.info? t).map fun i => (i.zero, i.size)) = some (z, n)) : ((P.info? t).map fun i => i.size) = some n := by
  cases hi : P.info? t with
  | none => rw [hi] at h; simp at h
  | some i => rw [hi] at h; simp at h; simp [h.2]

theorem run_zeroOf {P : Program} {t n : Nat} {z : Value} (h : ((P.info? t).map fun i => (i.zero, i.size)) = some (some z, n)) (w : World) : (zeroValue t).run P w = .ok z w := by
  cases hi : P.info? t with
  | none => rw [hi] at h; simp at h
  | some i => rw [hi] at h; simp at h; simp [zeroValue, typeInfo, hi, h.1]

theorem ok_word {P : Program} (hT : TabOk P T) {t : Nat} (h : (isIn t T.word || isIn t T.byte) = true) : (∃ k, P.underlying t = some (.int k)) ∧ ((P.info? t).map fun i => i.size) = some 1 := by
  rw [Bool.or_eq_true] at h
  rcases h with h | h
  · obtain ⟨h1, h2⟩ := hT.word t (isIn_mem h)
    exact ⟨⟨_, h1⟩, size_of_both h2⟩
  · obtain ⟨h1, h2⟩ := hT.byte t (isIn_mem h)
    exact ⟨⟨_, h1⟩, size_of_both h2⟩

theorem run_shl (k k' : IntKind) (x n : Nat) (hk : k = .u64) (hn : n < 64) (P : Program) (w : World) :
    (Op.shift .shl k (x : Int) k' (n : Int)).run P w = .ok (.int .u64 ((x * 2 ^ n % 18446744073709551616 : Nat) : Int)) w := by
  subst hk
  have h0 : ¬ ((n : Int) < 0) := by omega
  have h1 : min n 64 = n := by omega
  simp only [Op.shift, h0, if_false, Int.toNat_natCast, IntKind.bits, h1, IntKind.wrap_u64, Sem.run_pure]
  congr 2

theorem run_shr (k k' : IntKind) (x n : Nat) (hk : k = .u64) (hn : n < 64) (P : Program) (w : World) :
    (Op.shift .shr k (x : Int) k' (n : Int)).run P w = .ok (.int .u64 ((x / 2 ^ n : Nat) : Int)) w := by
  subst hk
  have h0 : ¬ ((n : Int) < 0) := by omega
  have h1 : min n 64 = n := by omega
  simp only [Op.shift, h0, if_false, Int.toNat_natCast, IntKind.bits, h1, Sem.run_pure]
  congr 2
  have : ((2 : Int) ^ n) = ((2 ^ n : Nat) : Int) := by simp
  rw [this]
  exact (Int.ofNat_fdiv x (2 ^ n)).symm

theorem val_v (ρ : Nat → Nat) (i : Nat) : (Ref.v i).val ρ = ρ i := rfl

theorem resolve_call {x : Oper} {c : Call} {f : Nat} (a : Act) (ho : x.op = .call c) (hf : c.callee = .value (.func f)) (P : Program) (w : World) :
    (execOp a.eval x).run P w = (callFunc f (c.args.map a.eval)).run P w := by
  simp [execOp, ho, resolve, hf, Act.eval, Deferred.ofValue, invoke]

theorem args_three {c : Call} {x y z : Operand} (h : c.args.toList = [x, y, z]) (g : Operand → Value) : c.args.map g = #[g x, g y, g z] := by
  have : c.args = #[x, y, z] := Array.ext' (by rw [h])
  rw [this]; simp

/-- Two rows of numbers are compared. -/
theorem run_eq_row {P : Program} (kd : Bool) {e : Nat} (he : P.underlying e = some (.int (match kd with | true => .u64 | false => .u8))) (d : Nat) (ρ : Nat → Nat) (xs ys : List Ref) (w : World) :
    ∀ (m i : Nat), i + m = xs.length → i + m = ys.length →
      (forIn (m := Sem) (List.range' i m) ((none, ()) : Option Bool × Unit) (fun i _ => do
        let a ← part e (((xs.map fun r => (kd, r)).map (sv ρ)).toArray) (i * 1)
        let b ← part e (((ys.map fun r => (kd, r)).map (sv ρ)).toArray) (i * 1)
        let r ← Op.equalIn (d + 1) e a b
        if (!r) = true then pure (ForInStep.done (some false, ())) else pure (ForInStep.yield (none, ())))).run P w =
      .ok (if (vals ρ xs).drop i = (vals ρ ys).drop i then none else some false, ()) w
  | 0, i, h1, h2 => by
    have e1 : (vals ρ xs).drop i = [] := List.drop_eq_nil_of_le (by simp [vals]; omega)
    have e2 : (vals ρ ys).drop i = [] := List.drop_eq_nil_of_le (by simp [vals]; omega)
    simp [e1, e2]
  | m + 1, i, h1, h2 => by
    have hx : i < xs.length := by omega
    have hy : i < ys.length := by omega
    have ih := run_eq_row kd he d ρ xs ys w m (i + 1) (by omega) (by omega)
    have px : (part e (((xs.map fun r => (kd, r)).map (sv ρ)).toArray) (i * 1)).run P w = .ok (sv ρ (kd, xs[i])) w := by
      simp [part, isAgg_word he, hx]
    have py : (part e (((ys.map fun r => (kd, r)).map (sv ρ)).toArray) (i * 1)).run P w = .ok (sv ρ (kd, ys[i])) w := by
      simp [part, isAgg_word he, hy]
    have pe : (Op.equalIn (d + 1) e (sv ρ (kd, xs[i])) (sv ρ (kd, ys[i]))).run P w = .ok (decide (xs[i].val ρ = ys[i].val ρ)) w := by
      unfold sv
      rw [run_equalIn_int w d e _ _ _ _ he]
      congr 1
      rw [Bool.eq_iff_iff]
      simp
      exact Int.ofNat_inj
    rw [List.range'_succ, List.forIn_cons]
    simp only [Sem.run_bind, px, py, pe, Result.andThen_ok, Sem.run_ite]
    have ex : (vals ρ xs).drop i = xs[i].val ρ :: (vals ρ xs).drop (i + 1) := by
      rw [List.drop_eq_getElem_cons (by simpa [vals] using hx)]; simp [vals]
    have ey : (vals ρ ys).drop i = ys[i].val ρ :: (vals ρ ys).drop (i + 1) := by
      rw [List.drop_eq_getElem_cons (by simpa [vals] using hy)]; simp [vals]
    rw [ex, ey]
    by_cases h : xs[i].val ρ = ys[i].val ρ
    · simp only [h, decide_true, Bool.not_true, Bool.false_eq_true, if_false, Sem.run_pure, Result.andThen_ok, List.cons.injEq, true_and]
      exact ih
    · simp [h]

end
end Go.Fiat

/- The tables of the program: what is so of them. -/
import Derived.Test.YtcpnimnilojooaaX7
import Derived.Test.YtcpnimnilojooaaB2
namespace Go.Fiat
open Go Go.Proofs

theorem mixed : Try.prog.follows .mixedOrders = true := by kernel_rfl

theorem arrs : ∀ t n k, (t, n, k) ∈ [(23, 4, true), (36, 4, true), (43, 4, true)] → ∃ e, Try.prog.underlying t = some (.array n e) ∧ Try.prog.underlying e = some (.int (match k with | true => .u64 | false => .u8)) ∧ ((Try.prog.info? e).map fun i => i.size) = some 1 ∧
    ((Try.prog.info? t).map fun i => (i.zero, i.size)) = some (some (.agg (Array.replicate n (zeroOf k))), n) ∧ Try.prog.eqGuardType Try.prog.depth t = false := by
  intro t n k h
  rcases List.mem_cons.1 h with h | h
  · cases h; exact ⟨22, by kernel_rfl, by kernel_rfl, by kernel_rfl, by kernel_rfl, by kernel_rfl⟩
  rcases List.mem_cons.1 h with h | h
  · cases h; exact ⟨22, by kernel_rfl, by kernel_rfl, by kernel_rfl, by kernel_rfl, by kernel_rfl⟩
  rcases List.mem_cons.1 h with h | h
  · cases h; exact ⟨22, by kernel_rfl, by kernel_rfl, by kernel_rfl, by kernel_rfl, by kernel_rfl⟩
  cases h

theorem wordsT : ∀ t, t ∈ [22, 50] → Try.prog.underlying t = some (.int .u64) ∧ ((Try.prog.info? t).map fun i => (i.zero, i.size)) = some (some (.int .u64 0), 1) := by
  intro t h
  rcases List.mem_cons.1 h with rfl | h
  · exact ⟨by kernel_rfl, by kernel_rfl⟩
  rcases List.mem_cons.1 h with rfl | h
  · exact ⟨by kernel_rfl, by kernel_rfl⟩
  cases h

theorem bytesT : ∀ t, t ∈ [5] → Try.prog.underlying t = some (.int .u8) ∧ ((Try.prog.info? t).map fun i => (i.zero, i.size)) = some (some (.int .u8 0), 1) := by
  intro t h
  rcases List.mem_cons.1 h with rfl | h
  · exact ⟨by kernel_rfl, by kernel_rfl⟩
  cases h

theorem funs0 : ∀ f fn, (f, fn) ∈ ([(21, Try.f21), (23, Try.f23), (25, Try.f25), (26, Try.f26), (27, Try.f27), (28, Try.f28), (31, Try.f31), (33, Try.f33), (34, Try.f34), (35, Try.f35), (11, Try.f11), (15, Try.f15), (18, Try.f18), (19, Try.f19), (20, Try.f20)] : List (Nat × Func)) → Try.prog.funcs[f]? = some fn ∧ (fn.name == "runtime.NumGoroutine") = false := by
  intro f fn h
  rcases List.mem_cons.1 h with h | h
  · cases h; exact ⟨Try.func21, by kernel_rfl⟩
  rcases List.mem_cons.1 h with h | h
  · cases h; exact ⟨Try.func23, by kernel_rfl⟩
  rcases List.mem_cons.1 h with h | h
  · cases h; exact ⟨Try.func25, by kernel_rfl⟩
  rcases List.mem_cons.1 h with h | h
  · cases h; exact ⟨Try.func26, by kernel_rfl⟩
  rcases List.mem_cons.1 h with h | h
  · cases h; exact ⟨Try.func27, by kernel_rfl⟩
  rcases List.mem_cons.1 h with h | h
  · cases h; exact ⟨Try.func28, by kernel_rfl⟩
  rcases List.mem_cons.1 h with h | h
  · cases h; exact ⟨Try.func31, by kernel_rfl⟩
  rcases List.mem_cons.1 h with h | h
  · cases h; exact ⟨Try.func33, by kernel_rfl⟩
  rcases List.mem_cons.1 h with h | h
  · cases h; exact ⟨Try.func34, by kernel_rfl⟩
  rcases List.mem_cons.1 h with h | h
  · cases h; exact ⟨Try.func35, by kernel_rfl⟩
  rcases List.mem_cons.1 h with h | h
  · cases h; exact ⟨Try.func11, by kernel_rfl⟩
  rcases List.mem_cons.1 h with h | h
  · cases h; exact ⟨Try.func15, by kernel_rfl⟩
  rcases List.mem_cons.1 h with h | h
  · cases h; exact ⟨Try.func18, by kernel_rfl⟩
  rcases List.mem_cons.1 h with h | h
  · cases h; exact ⟨Try.func19, by kernel_rfl⟩
  rcases List.mem_cons.1 h with h | h
  · cases h; exact ⟨Try.func20, by kernel_rfl⟩
  cases h

theorem funs1 : ∀ f fn, (f, fn) ∈ ([(16, Try.f16), (24, Try.f24), (32, Try.f32)] : List (Nat × Func)) → Try.prog.funcs[f]? = some fn ∧ (fn.name == "runtime.NumGoroutine") = false := by
  intro f fn h
  rcases List.mem_cons.1 h with h | h
  · cases h; exact ⟨Try.func16, by kernel_rfl⟩
  rcases List.mem_cons.1 h with h | h
  · cases h; exact ⟨Try.func24, by kernel_rfl⟩
  rcases List.mem_cons.1 h with h | h
  · cases h; exact ⟨Try.func32, by kernel_rfl⟩
  cases h

noncomputable def T0 : Tab := { arr := [(23, 4, true), (36, 4, true), (43, 4, true)], word := [22, 50], byte := [5], mul := 37, addF := 38, subF := 39, cmov := 40, funs := [(21, Try.f21), (23, Try.f23), (25, Try.f25), (26, Try.f26), (27, Try.f27), (28, Try.f28), (31, Try.f31), (33, Try.f33), (34, Try.f34), (35, Try.f35), (11, Try.f11), (15, Try.f15), (18, Try.f18), (19, Try.f19), (20, Try.f20)], orcs := [] }

theorem tab0 : TabOk Try.prog T0 :=
  ⟨arrs, wordsT, bytesT,
   fun f h x y hx hy w => by have := Nat.succ.inj h; subst this; exact ⟨mul64_enters _ w, mul64_any x y hx hy w⟩,
   fun f h x y c hc w => by have := Nat.succ.inj h; subst this; exact add64_run x y c hc w,
   fun f h x y c hc w => by have := Nat.succ.inj h; subst this; exact sub64_run x y c hc w,
   fun f h a c x y old w hc hx hy h1 h2 => by have := Nat.succ.inj h; subst this; exact ⟨cmov_enters _ w, cmov_any a c x y old w hc hx hy h1 h2⟩, funs0⟩
theorem none0 : OrcsOk Try.prog T0 := fun _ _ h => absurd h List.not_mem_nil

def pp : Nat := 115792089210356248762697446949407573530086143415290314195533631308867097853951
def RR : Nat := 2 ^ 256
/-- 1 by R, modulo p. -/
def II : Nat := 115792089183396302114378112356516095823261736990586219612555396166510339686400
theorem II_ok : RR * II % pp = 1 % pp := by kernel_rfl
theorem pp_le : pp ≤ RR := by decide
theorem pp_ne : pp ≠ 0 := by decide
/-- R, R * R, modulo p. -/
def R1 : Nat := 26959946660873538059280334323183841250350249843923952699046031785985
def R2 : Nat := 134799733323198995502561713907086292154532538166959272814710328655875
theorem R2_ok : R2 * II % pp = R1 % pp := by kernel_rfl
theorem R2_le : R2 ≤ RR := by decide
def mm : List Nat := [18446744073709551615, 4294967295, 0, 18446744069414584321]
theorem mm_ok : wval mm = pp := by kernel_rfl

theorem run_sqr : fieldRun 1 4 pp RR (G.zero.product 1 (vars 0 4) (vars 0 4)) (runFun T0 4 Try.f11 (argAVs false 1 4) (St.init (1 * 4))) = true := by kernel_rfl
theorem orc_sqr : OrcOk Try.prog 11 (.aggs (.sqr pp II) pp 4 false 1 4) :=
  sqr_contract tab0 none0 mixed Try.func11 run_sqr pp_ne II_ok pp_le
theorem run_mul : fieldRun 2 4 pp RR (G.zero.product 1 (vars 0 4) (vars 4 4)) (runFun T0 4 Try.f15 (argAVs false 2 4) (St.init (2 * 4))) = true := by kernel_rfl
theorem orc_mul : OrcOk Try.prog 15 (.aggs (.mulm pp II) pp 4 false 2 4) :=
  mul_contract tab0 none0 mixed Try.func15 run_mul pp_ne II_ok pp_le
theorem run_add : fieldRun 2 4 pp 1 (some ((G.zero.words 1 (vars 0 4)).words 1 (vars 4 4))) (runFun T0 4 Try.f18 (argAVs false 2 4) (St.init (2 * 4))) = true := by kernel_rfl
theorem orc_add : OrcOk Try.prog 18 (.aggs (.addm pp) pp 4 false 2 4) :=
  add_contract tab0 none0 mixed Try.func18 run_add pp_ne
theorem run_to : fieldRun 1 4 pp RR (some (G.zero.words (R2 : Int) (vars 0 4))) (runFun T0 4 Try.f19 (argAVs false 1 4) (St.init (1 * 4))) = true := by kernel_rfl
theorem orc_to : OrcOk Try.prog 19 (.aggs (.lin pp R1) pp 4 false 1 4) :=
  to_contract tab0 none0 mixed Try.func19 run_to pp_ne II_ok R2_le R2_ok
theorem run_from : fieldRun 1 4 pp RR (some (G.zero.words ((1 : Nat) : Int) (vars 0 4))) (runFun T0 4 Try.f20 (argAVs false 1 4) (St.init (1 * 4))) = true := by kernel_rfl
theorem orc_from : OrcOk Try.prog 20 (.aggs (.lin pp II) pp 4 false 1 4) :=
  from_contract tab0 none0 mixed Try.func20 run_from pp_ne II_ok

end Go.Fiat

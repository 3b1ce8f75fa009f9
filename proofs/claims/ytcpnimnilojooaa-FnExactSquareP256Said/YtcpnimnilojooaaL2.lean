/- FnExactSquare: the law. -/
import Derived.Test.YtcpnimnilojooaaL1
namespace Go.Fiat
open Go Go.Proofs

def oSq : List Ins := [.less 4 (vars 0 4) (mm.map .k)]
def oSq2 : List Ins := .less 9 (vars 5 4) (mm.map .k) :: .fn 5 4 (.sqr pp II) false [vars 0 4] :: oSq
def oSq3 : List Ins := .same 18 (vars 10 4) (vars 14 4) :: .fn 14 4 (.mulm pp 1) false [vars 0 4, vars 0 4] :: .fn 10 4 (.lin pp R1) false [vars 5 4] :: oSq2
theorem runSq : runFun T1 1 Try.f3 (argAVs false 1 4) (St.init (1 * 4)) = some [(some (.bool false (.v 18)), { N := 0, tm := .leaf, mem := [], n := 19, cb := 0, pc := [(9, true), (4, true)], out := oSq3 }),
  (some (.bool false (.k 0)), { N := 0, tm := .leaf, mem := [], n := 10, cb := 0, pc := [(9, false), (4, true)], out := oSq2 }), (some (.bool false (.k 1)), { N := 0, tm := .leaf, mem := [], n := 5, cb := 0, pc := [(4, false)], out := oSq })] := by kernel_rfl

theorem lawSq (xs : List Nat) (w : World) (hl : xs.length = 4) (hx : ∀ x ∈ xs, x < 18446744073709551616) : Calls Try.prog 3 #[.agg (rowOf false xs)] w fun e w' => e = .returned (.bool true) ∧ Keeps w w' := by
  refine law_of_run tab1 orcs1 mixed Try.func3 runSq (out := oSq3) (fun x hx i hi => ?_) (by kernel_rfl) (by kernel_rfl) (fun ρ hW hin hs x hx hpc => ?_) [xs] w rfl (fun ys hys => by rw [List.mem_singleton.1 hys]; exact ⟨hl, hx⟩)
  · rcases List.mem_cons.1 hx with rfl | hx
    · exact hi
    rcases List.mem_cons.1 hx with rfl | hx
    · exact List.mem_cons_of_mem _ (List.mem_cons_of_mem _ (List.mem_cons_of_mem _ hi))
    rw [List.mem_singleton.1 hx] at hi
    exact List.mem_cons_of_mem _ (List.mem_cons_of_mem _ (List.mem_cons_of_mem _ (List.mem_cons_of_mem _ (List.mem_cons_of_mem _ hi))))
  · have h5 := fn_val (hs (.fn 5 4 (.sqr pp II) false [vars 0 4]) (by simp [oSq3, oSq2])) (Nat.mod_lt _ pp_pos)
    rcases List.mem_cons.1 hx with rfl | hx
    · refine ⟨false, .v 18, rfl, same_true (hs (.same 18 (vars 10 4) (vars 14 4)) List.mem_cons_self) (fn_same (hs (.fn 10 4 (.lin pp R1) false [vars 5 4]) (by simp [oSq3])) (hs (.fn 14 4 (.mulm pp 1) false [vars 0 4, vars 0 4]) (by simp [oSq3])) ?_)⟩
      show wval (vals ρ (vars 5 4)) * R1 % pp = wval (vals ρ (vars 0 4)) * wval (vals ρ (vars 0 4)) * 1 % pp
      rw [h5, Nat.mul_one]
      exact cancel _ IIR1
    rcases List.mem_cons.1 hx with rfl | hx
    · exfalso
      refine pc_not_less (hs (.less 9 (vars 5 4) (mm.map .k)) (by simp [oSq3, oSq2])) (hpc (9, false) List.mem_cons_self) ?_
      rw [mm_val, h5]
      exact Nat.mod_lt _ pp_pos
    · rw [List.mem_singleton.1 hx]
      exact ⟨false, .k 1, rfl, rfl⟩

end Go.Fiat

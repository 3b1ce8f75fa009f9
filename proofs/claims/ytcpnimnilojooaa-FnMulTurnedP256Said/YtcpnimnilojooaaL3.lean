/- FnMulTurned, FnOne, FnFromBack, FnMulPlain: the laws. -/
import Derived.Test.YtcpnimnilojooaaL1
namespace Go.Fiat
open Go Go.Proofs

/-- The one of the domain. -/
def ww : List Nat := [1, 18446744069414584320, 18446744073709551615, 4294967294]
theorem ww_val (ρ : Nat → Nat) : wval (vals ρ (ww.map .k)) = R1 := by
  have h : wval ww = R1 := by kernel_rfl
  rw [← h]; congr 1
theorem ww_words (ρ : Nat → Nat) : ∀ x ∈ vals ρ (ww.map .k), x < 18446744073709551616 := by
  have e : vals ρ (ww.map .k) = ww := rfl
  rw [e]; decide

/-- An element times the one is that element. -/
theorem times_one {ρ : Nat → Nat} (hW : Words ρ) {d s : Nat} (h : (Ins.fn d 4 (.mulm pp II) false [vars s 4, ww.map .k]).sat ρ) (hlt : wval (vals ρ (vars s 4)) < pp) : vals ρ (vars d 4) = vals ρ (vars s 4) := by
  refine fn_is h (by simp [vars]) (vars_words hW s 4) ?_
  show wval (vals ρ (vars s 4)) * wval (vals ρ (ww.map .k)) * II % pp = _
  rw [ww_val, cancel' _ R1II, Nat.mod_eq_of_lt hlt]

/-! ### a * b is b * a; a * 1 is a -/

def oT0 : List Ins := [.less 8 (vars 0 4) (mm.map .k)]
def oT1 : List Ins := .less 9 (vars 4 4) (mm.map .k) :: oT0
def oT2 : List Ins := .same 18 (vars 10 4) (vars 14 4) :: .fn 14 4 (.mulm pp II) false [vars 4 4, vars 0 4] :: .fn 10 4 (.mulm pp II) false [vars 0 4, vars 4 4] :: oT1
def oT3 : List Ins := .same 23 (vars 19 4) (vars 0 4) :: .fn 19 4 (.mulm pp II) false [vars 0 4, ww.map .k] :: oT2
theorem runT : runFun T1 4 Try.f4 (argAVs false 2 4) (St.init (2 * 4)) = some [(some (.bool false (.v 23)), { N := 0, tm := .leaf, mem := [], n := 24, cb := 0, pc := [(18, true), (9, true), (8, true)], out := oT3 }),
  (some (.bool false (.k 0)), { N := 0, tm := .leaf, mem := [], n := 19, cb := 0, pc := [(18, false), (9, true), (8, true)], out := oT2 }),
  (some (.bool false (.k 1)), { N := 0, tm := .leaf, mem := [], n := 10, cb := 0, pc := [(9, false), (8, true)], out := oT1 }), (some (.bool false (.k 1)), { N := 0, tm := .leaf, mem := [], n := 9, cb := 0, pc := [(8, false)], out := oT0 })] := by kernel_rfl

theorem lawTurned (xs ys : List Nat) (w : World) (hl : xs.length = 4) (hl' : ys.length = 4) (hx : ∀ x ∈ xs, x < 18446744073709551616) (hy : ∀ x ∈ ys, x < 18446744073709551616) :
    Calls Try.prog 4 #[.agg (rowOf false xs), .agg (rowOf false ys)] w fun e w' => e = .returned (.bool true) ∧ Keeps w w' := by
  have sub2 : ∀ i ∈ oT2, i ∈ oT3 := fun i hi => List.mem_cons_of_mem _ (List.mem_cons_of_mem _ hi)
  have sub1 : ∀ i ∈ oT1, i ∈ oT3 := fun i hi => sub2 i (List.mem_cons_of_mem _ (List.mem_cons_of_mem _ (List.mem_cons_of_mem _ hi)))
  have sub0 : ∀ i ∈ oT0, i ∈ oT3 := fun i hi => sub1 i (List.mem_cons_of_mem _ hi)
  refine law_of_run tab1 orcs1 mixed Try.func4 runT (out := oT3) (fun x hx i hi => ?_) (by kernel_rfl) (by kernel_rfl) (fun ρ hW hin hs x hx hpc => ?_) [xs, ys] w rfl (fun zs hzs => by
    rcases List.mem_cons.1 hzs with rfl | hzs
    · exact ⟨hl, hx⟩
    · rw [List.mem_singleton.1 hzs]; exact ⟨hl', hy⟩)
  · rcases List.mem_cons.1 hx with rfl | hx
    · exact hi
    rcases List.mem_cons.1 hx with rfl | hx
    · exact sub2 i hi
    rcases List.mem_cons.1 hx with rfl | hx
    · exact sub1 i hi
    rw [List.mem_singleton.1 hx] at hi
    exact sub0 i hi
  · rcases List.mem_cons.1 hx with rfl | hx
    · have ha := pc_less (hs (.less 8 (vars 0 4) (mm.map .k)) (sub0 _ List.mem_cons_self)) (hpc (8, true) (by simp))
      rw [mm_val] at ha
      exact ⟨false, .v 23, rfl, same_true (hs (.same 23 (vars 19 4) (vars 0 4)) List.mem_cons_self) (times_one hW (hs (.fn 19 4 (.mulm pp II) false [vars 0 4, ww.map .k]) (by simp [oT3])) ha)⟩
    rcases List.mem_cons.1 hx with rfl | hx
    · exfalso
      refine pc_not_same (hs (.same 18 (vars 10 4) (vars 14 4)) (by simp [oT3, oT2])) (hpc (18, false) List.mem_cons_self) (fn_same (hs (.fn 10 4 (.mulm pp II) false [vars 0 4, vars 4 4]) (by simp [oT3, oT2])) (hs (.fn 14 4 (.mulm pp II) false [vars 4 4, vars 0 4]) (by simp [oT3, oT2])) ?_)
      show wval (vals ρ (vars 0 4)) * wval (vals ρ (vars 4 4)) * II % pp = wval (vals ρ (vars 4 4)) * wval (vals ρ (vars 0 4)) * II % pp
      rw [Nat.mul_comm (wval (vals ρ (vars 0 4)))]
    rcases List.mem_cons.1 hx with rfl | hx
    · exact ⟨false, .k 1, rfl, rfl⟩
    · rw [List.mem_singleton.1 hx]
      exact ⟨false, .k 1, rfl, rfl⟩

/-! ### The one -/

def oO0 : List Ins := [.less 4 (vars 0 4) (mm.map .k)]
def oO1 : List Ins := .same 9 (ww.map .k) (vars 5 4) :: .fn 5 4 (.lin pp R1) false [[.k 1, .k 0, .k 0, .k 0]] :: oO0
def oO2 : List Ins := .same 14 (vars 10 4) (vars 0 4) :: .fn 10 4 (.mulm pp II) false [vars 0 4, ww.map .k] :: oO1
theorem runO : runFun T1 4 Try.f5 (argAVs false 1 4) (St.init (1 * 4)) = some [(some (.bool false (.v 14)), { N := 0, tm := .leaf, mem := [], n := 15, cb := 0, pc := [(9, true), (4, true)], out := oO2 }),
  (some (.bool false (.k 0)), { N := 0, tm := .leaf, mem := [], n := 10, cb := 0, pc := [(9, false), (4, true)], out := oO1 }), (some (.bool false (.k 1)), { N := 0, tm := .leaf, mem := [], n := 5, cb := 0, pc := [(4, false)], out := oO0 })] := by kernel_rfl

theorem lawOne (xs : List Nat) (w : World) (hl : xs.length = 4) (hx : ∀ x ∈ xs, x < 18446744073709551616) : Calls Try.prog 5 #[.agg (rowOf false xs)] w fun e w' => e = .returned (.bool true) ∧ Keeps w w' := by
  have sub1 : ∀ i ∈ oO1, i ∈ oO2 := fun i hi => List.mem_cons_of_mem _ (List.mem_cons_of_mem _ hi)
  have sub0 : ∀ i ∈ oO0, i ∈ oO2 := fun i hi => sub1 i (List.mem_cons_of_mem _ (List.mem_cons_of_mem _ hi))
  refine law_of_run tab1 orcs1 mixed Try.func5 runO (out := oO2) (fun x hx i hi => ?_) (by kernel_rfl) (by kernel_rfl) (fun ρ hW hin hs x hx hpc => ?_) [xs] w rfl (fun ys hys => by rw [List.mem_singleton.1 hys]; exact ⟨hl, hx⟩)
  · rcases List.mem_cons.1 hx with rfl | hx
    · exact hi
    rcases List.mem_cons.1 hx with rfl | hx
    · exact sub1 i hi
    rw [List.mem_singleton.1 hx] at hi
    exact sub0 i hi
  · rcases List.mem_cons.1 hx with rfl | hx
    · have ha := pc_less (hs (.less 4 (vars 0 4) (mm.map .k)) (sub0 _ List.mem_cons_self)) (hpc (4, true) (by simp))
      rw [mm_val] at ha
      exact ⟨false, .v 14, rfl, same_true (hs (.same 14 (vars 10 4) (vars 0 4)) List.mem_cons_self) (times_one hW (hs (.fn 10 4 (.mulm pp II) false [vars 0 4, ww.map .k]) (by simp [oO2])) ha)⟩
    rcases List.mem_cons.1 hx with rfl | hx
    · exfalso
      refine pc_not_same (hs (.same 9 (ww.map .k) (vars 5 4)) (by simp [oO2, oO1])) (hpc (9, false) List.mem_cons_self) (fn_is (hs (.fn 5 4 (.lin pp R1) false [[.k 1, .k 0, .k 0, .k 0]]) (by simp [oO2, oO1])) rfl (ww_words ρ) ?_).symm
      rw [ww_val]
      kernel_rfl
    · rw [List.mem_singleton.1 hx]
      exact ⟨false, .k 1, rfl, rfl⟩

/-! ### Out of the domain and into it -/

def oF0 : List Ins := [.less 4 (vars 0 4) (mm.map .k)]
def oF1 : List Ins := .same 13 (vars 9 4) (vars 0 4) :: .fn 9 4 (.lin pp R1) false [vars 5 4] :: .fn 5 4 (.lin pp II) false [vars 0 4] :: oF0
theorem runF : runFun T1 4 Try.f7 (argAVs false 1 4) (St.init (1 * 4)) = some [(some (.bool false (.v 13)), { N := 0, tm := .leaf, mem := [], n := 14, cb := 0, pc := [(4, true)], out := oF1 }),
  (some (.bool false (.k 1)), { N := 0, tm := .leaf, mem := [], n := 5, cb := 0, pc := [(4, false)], out := oF0 })] := by kernel_rfl

theorem lawBack (xs : List Nat) (w : World) (hl : xs.length = 4) (hx : ∀ x ∈ xs, x < 18446744073709551616) : Calls Try.prog 7 #[.agg (rowOf false xs)] w fun e w' => e = .returned (.bool true) ∧ Keeps w w' := by
  have sub0 : ∀ i ∈ oF0, i ∈ oF1 := fun i hi => List.mem_cons_of_mem _ (List.mem_cons_of_mem _ (List.mem_cons_of_mem _ hi))
  refine law_of_run tab1 orcs1 mixed Try.func7 runF (out := oF1) (fun x hx i hi => ?_) (by kernel_rfl) (by kernel_rfl) (fun ρ hW hin hs x hx hpc => ?_) [xs] w rfl (fun ys hys => by rw [List.mem_singleton.1 hys]; exact ⟨hl, hx⟩)
  · rcases List.mem_cons.1 hx with rfl | hx
    · exact hi
    rw [List.mem_singleton.1 hx] at hi
    exact sub0 i hi
  · rcases List.mem_cons.1 hx with rfl | hx
    · have ha := pc_less (hs (.less 4 (vars 0 4) (mm.map .k)) (sub0 _ List.mem_cons_self)) (hpc (4, true) (by simp))
      rw [mm_val] at ha
      have h5 := fn_val (hs (.fn 5 4 (.lin pp II) false [vars 0 4]) (by simp [oF1])) (Nat.mod_lt _ pp_pos)
      refine ⟨false, .v 13, rfl, same_true (hs (.same 13 (vars 9 4) (vars 0 4)) List.mem_cons_self) (fn_is (hs (.fn 9 4 (.lin pp R1) false [vars 5 4]) (by simp [oF1])) (by simp [vars]) (vars_words hW 0 4) ?_)⟩
      show wval (vals ρ (vars 5 4)) * R1 % pp = _
      rw [h5]
      exact (cancel _ IIR1).trans (Nat.mod_eq_of_lt ha)
    · rw [List.mem_singleton.1 hx]
      exact ⟨false, .k 1, rfl, rfl⟩

/-! ### An element of the domain times one that is not in it -/

def oP0 : List Ins := [.less 8 (vars 0 4) (mm.map .k)]
def oP1 : List Ins := .less 9 (vars 4 4) (mm.map .k) :: oP0
def oP2 : List Ins := .same 22 (vars 14 4) (vars 18 4) :: .fn 18 4 (.mulm pp 1) false [vars 0 4, vars 4 4] :: .fn 14 4 (.mulm pp II) false [vars 10 4, vars 4 4] :: .fn 10 4 (.lin pp R1) false [vars 0 4] :: oP1
theorem runP : runFun T1 4 Try.f8 (argAVs false 2 4) (St.init (2 * 4)) = some [(some (.bool false (.v 22)), { N := 0, tm := .leaf, mem := [], n := 23, cb := 0, pc := [(9, true), (8, true)], out := oP2 }),
  (some (.bool false (.k 1)), { N := 0, tm := .leaf, mem := [], n := 10, cb := 0, pc := [(9, false), (8, true)], out := oP1 }), (some (.bool false (.k 1)), { N := 0, tm := .leaf, mem := [], n := 9, cb := 0, pc := [(8, false)], out := oP0 })] := by kernel_rfl

theorem lawPlain (xs ys : List Nat) (w : World) (hl : xs.length = 4) (hl' : ys.length = 4) (hx : ∀ x ∈ xs, x < 18446744073709551616) (hy : ∀ x ∈ ys, x < 18446744073709551616) :
    Calls Try.prog 8 #[.agg (rowOf false xs), .agg (rowOf false ys)] w fun e w' => e = .returned (.bool true) ∧ Keeps w w' := by
  have sub1 : ∀ i ∈ oP1, i ∈ oP2 := fun i hi => List.mem_cons_of_mem _ (List.mem_cons_of_mem _ (List.mem_cons_of_mem _ (List.mem_cons_of_mem _ hi)))
  have sub0 : ∀ i ∈ oP0, i ∈ oP2 := fun i hi => sub1 i (List.mem_cons_of_mem _ hi)
  refine law_of_run tab1 orcs1 mixed Try.func8 runP (out := oP2) (fun x hx i hi => ?_) (by kernel_rfl) (by kernel_rfl) (fun ρ hW hin hs x hx hpc => ?_) [xs, ys] w rfl (fun zs hzs => by
    rcases List.mem_cons.1 hzs with rfl | hzs
    · exact ⟨hl, hx⟩
    · rw [List.mem_singleton.1 hzs]; exact ⟨hl', hy⟩)
  · rcases List.mem_cons.1 hx with rfl | hx
    · exact hi
    rcases List.mem_cons.1 hx with rfl | hx
    · exact sub1 i hi
    rw [List.mem_singleton.1 hx] at hi
    exact sub0 i hi
  · rcases List.mem_cons.1 hx with rfl | hx
    · have h10 := fn_val (hs (.fn 10 4 (.lin pp R1) false [vars 0 4]) (by simp [oP2])) (Nat.mod_lt _ pp_pos)
      refine ⟨false, .v 22, rfl, same_true (hs (.same 22 (vars 14 4) (vars 18 4)) List.mem_cons_self) (fn_same (hs (.fn 14 4 (.mulm pp II) false [vars 10 4, vars 4 4]) (by simp [oP2])) (hs (.fn 18 4 (.mulm pp 1) false [vars 0 4, vars 4 4]) (by simp [oP2])) ?_)⟩
      show wval (vals ρ (vars 10 4)) * wval (vals ρ (vars 4 4)) * II % pp = wval (vals ρ (vars 0 4)) * wval (vals ρ (vars 4 4)) * 1 % pp
      rw [h10]
      show wval (vals ρ (vars 0 4)) * R1 % pp * wval (vals ρ (vars 4 4)) * II % pp = _
      rw [Nat.mul_assoc, Nat.mul_mod, Nat.mod_mod, ← Nat.mul_mod, Nat.mul_comm (wval (vals ρ (vars 4 4))) II, ← Nat.mul_assoc, Nat.mul_mod, cancel' _ R1II, ← Nat.mul_mod, Nat.mul_one]
    rcases List.mem_cons.1 hx with rfl | hx
    · exact ⟨false, .k 1, rfl, rfl⟩
    · rw [List.mem_singleton.1 hx]
      exact ⟨false, .k 1, rfl, rfl⟩

end Go.Fiat

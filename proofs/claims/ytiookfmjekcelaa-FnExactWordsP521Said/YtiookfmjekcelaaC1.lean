/- The tables of the program of FnExactWordsP521; its functions' contracts. -/
import Derived.Test.YtiookfmjekcelaaB1
import Derived.Test.YtiookfmjekcelaaW2
namespace Go.Fiat
open Go Go.Proofs

def m521 : List Nat := [18446744073709551615, 18446744073709551615, 18446744073709551615, 18446744073709551615, 18446744073709551615, 18446744073709551615, 18446744073709551615, 18446744073709551615, 511]
noncomputable def T0 : Tab := { arr := [(22, 66, false), (27, 9, true)], word := [26, 35], byte := [5], mul := 0, addF := 0, subF := 0, cmov := 0, funs := [(5, Try.f5), (9, Try.f9), (10, Try.f10)], orcs := [] }
noncomputable def T1 : Tab := { arr := [(22, 66, false), (27, 9, true)], word := [26, 35], byte := [5], mul := 0, addF := 0, subF := 0, cmov := 0, funs := [], orcs := [(4, .ofB 26), (5, .aggs .idv 0 66 true 1 9), (6, .less), (7, .consts m521 26), (8, .same)] }

theorem mixed : Try.prog.follows .mixedOrders = true := by kernel_rfl

theorem arrs : ∀ t n k, (t, n, k) ∈ [(22, 66, false), (27, 9, true)] → ∃ e, Try.prog.underlying t = some (.array n e) ∧ Try.prog.underlying e = some (.int (match k with | true => .u64 | false => .u8)) ∧ ((Try.prog.info? e).map fun i => i.size) = some 1 ∧
    ((Try.prog.info? t).map fun i => (i.zero, i.size)) = some (some (.agg (Array.replicate n (zeroOf k))), n) ∧ Try.prog.eqGuardType Try.prog.depth t = false := by
  intro t n k h
  rcases List.mem_cons.1 h with h | h
  · cases h; exact ⟨5, by kernel_rfl, by kernel_rfl, by kernel_rfl, by kernel_rfl, by kernel_rfl⟩
  rcases List.mem_cons.1 h with h | h
  · cases h; exact ⟨26, by kernel_rfl, by kernel_rfl, by kernel_rfl, by kernel_rfl, by kernel_rfl⟩
  cases h

theorem wordsT : ∀ t, t ∈ [26, 35] → Try.prog.underlying t = some (.int .u64) ∧ ((Try.prog.info? t).map fun i => (i.zero, i.size)) = some (some (.int .u64 0), 1) := by
  intro t h
  rcases List.mem_cons.1 h with rfl | h
  · exact ⟨by kernel_rfl, by kernel_rfl⟩
  rcases List.mem_cons.1 h with rfl | h
  · exact ⟨by kernel_rfl, by kernel_rfl⟩
  cases h

theorem bytesT : ∀ t, t ∈ [5] → Try.prog.underlying t = some (.int .u8) ∧ ((Try.prog.info? t).map fun i => (i.zero, i.size)) = some (some (.int .u8 0), 1) := by
  intro t h
  rcases List.mem_cons.1 h with rfl | h
  · exact ⟨by kernel_rfl, by kernel_rfl⟩
  cases h

theorem funs0 : ∀ f fn, (f, fn) ∈ [(5, Try.f5), (9, Try.f9), (10, Try.f10)] → Try.prog.funcs[f]? = some fn ∧ (fn.name == "runtime.NumGoroutine") = false := by
  intro f fn h
  rcases List.mem_cons.1 h with h | h
  · cases h; exact ⟨Try.func5, by kernel_rfl⟩
  rcases List.mem_cons.1 h with h | h
  · cases h; exact ⟨Try.func9, by kernel_rfl⟩
  rcases List.mem_cons.1 h with h | h
  · cases h; exact ⟨Try.func10, by kernel_rfl⟩
  cases h

theorem tab0 : TabOk Try.prog T0 :=
  ⟨arrs, wordsT, bytesT, fun f h => absurd h (Nat.succ_ne_zero f), fun f h => absurd h (Nat.succ_ne_zero f), fun f h => absurd h (Nat.succ_ne_zero f), fun f h => absurd h (Nat.succ_ne_zero f), funs0⟩
theorem tab1 : TabOk Try.prog T1 :=
  ⟨arrs, wordsT, bytesT, fun f h => absurd h (Nat.succ_ne_zero f), fun f h => absurd h (Nat.succ_ne_zero f), fun f h => absurd h (Nat.succ_ne_zero f), fun f h => absurd h (Nat.succ_ne_zero f), fun _ _ h => absurd h List.not_mem_nil⟩

/-- The words of bytes: what the run gives is looked at. -/
def wordsRun (len n : Nat) : Option (List (Option AV × St)) → Bool
  | some [(some (.agg l), s)] => match refsOf true l with
    | some os => Nat.beq os.length n && os.all Ref.word && chain len s.out.reverse && wordy s.out.reverse && wordy s.out && bytesOk len os s.out
    | none => false
  | _ => false

theorem run5 : wordsRun 66 9 (runFun T0 4 Try.f5 (argAVs true 1 66) (St.init (1 * 66))) = true := by kernel_rfl

theorem orc5 : OrcOk Try.prog 5 (.aggs .idv 0 66 true 1 9) := by
  have h := run5
  cases hr : runFun T0 4 Try.f5 (argAVs true 1 66) (St.init (1 * 66)) with
  | none => rw [hr] at h; cases h
  | some L =>
    rw [hr] at h
    unfold wordsRun at h
    split at h
    · rename_i l s heq
      have e := Option.some.inj heq
      subst e
      split at h
      · rename_i os hos
        simp only [Bool.and_eq_true] at h
        obtain ⟨⟨⟨⟨⟨h1, h2⟩, h3⟩, h4⟩, h5⟩, h6⟩ := h
        have hl := refsOf_eq hos
        refine aggs_of_run tab0 (fun f o h => by cases h) mixed Try.func5 hr (os := os) (out := s.out) (fun x hx => ?_) h3 h4 fun ρ hW hin hs _ => ?_
        · rw [List.mem_singleton.1 hx]
          exact ⟨by rw [hl]; rfl, fun i hi => hi⟩
        · refine toW_of (by simp [vals]; exact Nat.eq_of_beq_eq_true h1) (fun x hx => ?_) ?_
          · obtain ⟨r, hr, rfl⟩ := List.mem_map.1 hx
            exact Ref.word_val hW (List.all_eq_true.1 h2 r hr)
          · exact bytesOk_val h6 h5 hW (fun i hi => hin i (by omega)) hs
      · cases h
    · cases h

theorem quiet_keeps {w w' : World} {n : Nat} (h : w' = w.drewN n) : Keeps w w' := by
  subst h; exact ⟨rfl, rfl, rfl, Nat.le_refl _, fun _ _ => rfl, fun _ => rfl⟩

theorem orcs1 : OrcsOk Try.prog T1 := by
  intro f orc h
  rcases List.mem_cons.1 h with h | h
  · cases h
    exact ⟨⟨Try.f4, _, Try.func4, by kernel_rfl, rfl⟩, trivial, fun xs bx n w h1 h2 h3 ⟨tx, h4⟩ => of_any xs bx tx _ n w rfl h2 h1 h3 h4⟩
  rcases List.mem_cons.1 h with h | h
  · cases h
    exact ⟨⟨Try.f5, _, Try.func5, by kernel_rfl, rfl⟩, .inr rfl, orc5⟩
  rcases List.mem_cons.1 h with h | h
  · cases h
    exact ⟨⟨Try.f6, _, Try.func6, by kernel_rfl, rfl⟩, trivial, fun xs ys bx by_ w h1 h2 h3 h4 ⟨tx, h5⟩ ⟨ty, h6⟩ => (less_any xs ys bx by_ tx ty _ w rfl h1.symm h2 h3 h4 h5 h6).mono fun e w' ⟨he, n, hn⟩ => ⟨he, quiet_keeps hn⟩⟩
  rcases List.mem_cons.1 h with h | h
  · cases h
    exact ⟨⟨Try.f7, _, Try.func7, by kernel_rfl, rfl⟩, trivial, by decide, fun w => w521_any w⟩
  rcases List.mem_cons.1 h with h | h
  · cases h
    exact ⟨⟨Try.f8, _, Try.func8, by kernel_rfl, rfl⟩, trivial, fun xs ys bx by_ w h1 h2 h3 h4 ⟨tx, h5⟩ ⟨ty, h6⟩ => (same_any xs ys bx by_ tx ty _ w rfl h1.symm h2 h5 h6).mono fun e w' ⟨he, n, hn⟩ => ⟨he, quiet_keeps hn⟩⟩
  cases h

def o1 : List Ins := [.less 84 (vars 66 9) (m521.map .k), .fn 75 9 .idv true [vars 0 66], .fn 66 9 .idv true [vars 0 66]]
theorem run3 : runFun T1 1 Try.f3 (argAVs true 1 66) (St.init (1 * 66)) = some [(some (.bool false (.v 85)), { N := 0, tm := .leaf, mem := [], n := 86, cb := 0, pc := [(84, true)], out := .same 85 (vars 75 9) (vars 66 9) :: o1 }), (some (.bool false (.k 1)), { N := 0, tm := .leaf, mem := [], n := 85, cb := 0, pc := [(84, false)], out := o1 })] := by kernel_rfl

theorem law3 (xs : List Nat) (w : World) (hl : xs.length = 66) (hx : ∀ x ∈ xs, x < 256) : Calls Try.prog 3 #[.agg (rowOf true xs)] w fun e w' => e = .returned (.bool true) ∧ Keeps w w' := by
  refine law_of_run tab1 orcs1 mixed Try.func3 run3 (out := .same 85 (vars 75 9) (vars 66 9) :: o1) (fun x hx i hi => ?_) (by kernel_rfl) (by kernel_rfl) (fun ρ hW hin hs x hx _ => ?_) [xs] w rfl (fun ys hys => by rw [List.mem_singleton.1 hys]; exact ⟨hl, hx⟩)
  · rcases List.mem_cons.1 hx with rfl | hx
    · exact hi
    · rw [List.mem_singleton.1 hx] at hi
      exact List.mem_cons_of_mem _ hi
  · rcases List.mem_cons.1 hx with rfl | hx
    · refine ⟨false, .v 85, rfl, ?_⟩
      have h1 : ρ 85 = if vals ρ (vars 75 9) = vals ρ (vars 66 9) then 1 else 0 := hs _ List.mem_cons_self
      have h2 := vals_vars ρ 75 9 (hs (.fn 75 9 .idv true [vars 0 66]) (by simp [o1]))
      have h3 := vals_vars ρ 66 9 (hs (.fn 66 9 .idv true [vars 0 66]) (by simp [o1]))
      rw [if_pos (h2.trans h3.symm)] at h1
      unfold truth
      rw [val_v, h1]; rfl
    · rw [List.mem_singleton.1 hx]
      exact ⟨false, .k 1, rfl, rfl⟩

end Go.Fiat

/- For every input FnMulTurnedP256 returns true, and each argument reads behind the call as it read before. No condition. -/
import Derived.Test.YtcpnimnilojooaaL3
import Derived.Test.YtcpnimnilojooaaR1
import Derived.Test.YtcpnimnilojooaaRows
namespace Go.Proofs.Ytcpnimnilojooaa
open Go.ChangeShapes Go.WideShapes Go.ChangeAt Go.RowKit Go.Fiat

theorem own : ownKnob Try.prog.godebug = none := by kernel_rfl
theorem undA : Try.prog.underlying 23 = some (.array 4 22) := by kernel_rfl
theorem undW : Try.prog.underlying 22 = some (.int (bk false)) := by kernel_rfl
theorem undB : Try.prog.underlying 4 = some .bool := by kernel_rfl
theorem cellsW : Try.prog.cellsOf 22 = 1 := by kernel_rfl
theorem cellsA : Try.prog.cellsOf 23 = 4 := by kernel_rfl

set_option maxRecDepth 100000 in
theorem lifted (os : Os) (started : os.Started) (H : Type) (enc : TypeId × Value → H) :
    ReturnsInHanded {} Try.checked os 4 .any (Rows.fnMulTurnedP256Spec.pre6 enc Try.prog Try.f4 Rows.fnMulTurnedP256Row.domain false) (Rows.fnMulTurnedP256Spec.post enc Try.prog Try.f4 false true false false) := by
  refine returnsInHanded_of_change (C := Try.checked) own started (by kernel_rfl) Try.func4
    (ChangeSpec.witness6 (enc := enc) (C := Try.checked) false ⟨#[], #[.agg (Array.replicate 4 (.int .u64 0)), .agg (Array.replicate 4 (.int .u64 0))], []⟩ 8 (by kernel_rfl) (by kernel_rfl) (by kernel_rfl) (by kernel_rfl)) ?_
  intro W base args ds gs before hval0 hW hcnd _
  have hval : ∀ (j : Nat) t v, Try.f4.params[j]? = some t → args[j]? = some v → Value.okWide Try.prog W .any base t v := hval0
  have hW' := hW
  obtain ⟨p, q, hA0, hV, rfl, hfz, hnd⟩ := hW
  have hA : DataW.TrodAll enc Try.prog W 0 (fun _ => true) true Try.f4.params.toList args.toList ds p := hA0
  rw [Try.params4] at hA hval
  obtain ⟨v0, v1, d0, d1, p0, p1, rfl, rfl, rfl, h0, h1⟩ := trodAll_two hA
  obtain ⟨rfl, rfl⟩ := trodVars_none hV
  obtain ⟨xs, rfl, rfl, rfl, hl0, hx0⟩ := open_arr false undA undW cellsW cellsA (hval 0 23 v0 rfl rfl) h0
  obtain ⟨ys, rfl, rfl, rfl, hl1, hx1⟩ := open_arr false undA undW cellsW cellsA (hval 1 23 v1 rfl rfl) h1
  clear hA0 hval0
  simp only [List.append_nil] at hW'
  refine (lawTurned xs ys W hl0 hl1 hx0 hx1).mono fun e W' ⟨he, hk⟩ => ?_
  subst he
  exact ⟨_, rfl, post_of_same (pa := []) (pv := []) hW' (fun _ _ _ => trodAll_mk1 (shut_bool undB true)) (fun _ _ => trodAll_mk2 (shut_arr false undA undW cellsW cellsA hl0 hx0) (shut_arr false undA undW cellsW cellsA hl1 hx1)) (fun _ _ => rfl) rfl
    (hk.kept _) hk.frozen (ok_one (by kernel_rfl) rfl (okWide_bool_mk undB true))⟩

theorem holds : Rows.FnMulTurnedP256Said :=
  OpenClaim.holds_of_wide 4 Try.f4 rfl rfl rfl rfl rfl rfl rfl ⟨rfl, rfl, rfl, rfl, rfl⟩ rfl rfl rfl rfl rfl (by kernel_rfl) Try.func4 (by kernel_rfl)
    (of_decide_eq_true (by kernel_rfl)) (by unfold Func.isWrapper; first | (rw [if_pos (by decide +kernel)]; kernel_rfl) | (rw [if_neg (by decide +kernel)]; exact ⟨rfl, rfl⟩))
    (fun os started H enc _ => lifted os started H enc)

end Go.Proofs.Ytcpnimnilojooaa

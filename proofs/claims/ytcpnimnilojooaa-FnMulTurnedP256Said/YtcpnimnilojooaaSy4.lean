/- A symbolic executor for code over words: operations that do not look at the world are sound. -/
import Derived.Test.YtcpnimnilojooaaSy3
namespace Go.Fiat
open Go

section
variable {C : Ctx} {T : Tab} {H : Handler} {s s' : St} {bl : List Nat} {a : Act} {w : World} {o : Oper} {L : List St}

theorem run_equalIn_array {P : Program} (kd : Bool) {t e n : Nat} (ht : P.underlying t = some (.array n e)) (he : P.underlying e = some (.int (match kd with | true => .u64 | false => .u8))) (hs : ((P.info? e).map fun i => i.size) = some 1)
    (d : Nat) (ρ : Nat → Nat) (xs ys : List Ref) (h1 : xs.length = n) (h2 : ys.length = n) (w : World) :
    (Op.equalIn (d + 2) t (.agg ((xs.map fun r => (kd, r)).map (sv ρ)).toArray) (.agg ((ys.map fun r => (kd, r)).map (sv ρ)).toArray)).run P w = .ok (decide (vals ρ xs = vals ρ ys)) w := by
  have := run_eq_row kd he d ρ xs ys w n 0 (by omega) (by omega)
  rw [Op.equalIn]
  simp only [Sem.run_bind, run_underlying' ht, Result.andThen_ok, run_sizeOf' hs]
  simp only [Std.Legacy.Range.forIn_eq_forIn_range', Std.Legacy.Range.size]
  rw [show (n - 0 + 1 - 1) / 1 = n by omega, this, List.drop_zero, List.drop_zero]
  by_cases h : vals ρ xs = vals ρ ys <;> simp [h]

theorem map_replicate_zero (ρ : Nat → Nat) (n : Nat) (k : Bool) : ((List.replicate n (k, Ref.k 0)).map (sv ρ)).toArray = Array.replicate n (zeroOf k) := by
  rw [List.map_replicate, ← List.toArray_replicate]
  cases k <;> rfl

theorem zeros_ok {ρ : Nat → Nat} {n : Nat} {k : Bool} : ∀ x ∈ List.replicate n (k, Ref.k 0), sOk ρ x := fun x hx => by
  have := List.eq_of_mem_replicate hx
  subst this
  unfold sOk
  dsimp only [Ref.val]
  split <;> decide

/-- What is to be shown of an operation that does not look at the world. -/
def PureOk (C : Ctx) (s : St) (bl : List Nat) (a : Act) (o : Oper) (L : List St) : Prop :=
  ∃ v s', s' ∈ L ∧ (∀ w, (execOp a.eval o).run C.P w = .ok (.value v) w) ∧ MF C s' bl (a.put o.dst v) ∧ FA C.ρ s' ∧ s'.mem = s.mem

theorem pure_put (M : MF C s bl a) (F : FA C.ρ s) {av : AV} (hav : av.ok C.ρ s.mem.length) (h : s.put1 o.dst (some av) = some L)
    (hr : ∀ w, (execOp a.eval o).run C.P w = .ok (.value (av.conc C.ρ (blk bl))) w) : PureOk C s bl a o L := by
  obtain ⟨s', h1, h2, h3, h4⟩ := put1_ok M F hav h
  exact ⟨_, s', h1, hr, h2, h3, h4⟩

theorem put1_out {s : St} {dst : Option Tmp} {av : Option AV} (h : s.put1 dst av = some L) : ∃ s', s' ∈ L ∧ s'.out = s.out := by
  obtain ⟨s', h1, rfl⟩ := put1_some h
  exact ⟨s', List.mem_singleton.2 rfl, (put_same h1).1⟩

/-- The instruction that was just given out holds. -/
theorem sat_head {s : St} {dst : Option Tmp} {av : Option AV} {ins : Ins} {l : List Ins} (ho : s.out = ins :: l) (h : s.put1 dst av = some L) (hsat : ∀ s' ∈ L, ∀ i ∈ s'.out, i.sat C.ρ) : ins.sat C.ρ := by
  obtain ⟨s', h1, h2⟩ := put1_out h
  exact hsat s' h1 ins (by rw [h2, ho]; exact List.mem_cons_self)

theorem pure_sound (hT : TabOk C.P T) (h : pureStep T o s = some L) (hsat : ∀ s' ∈ L, ∀ i ∈ s'.out, i.sat C.ρ) (M : MF C s bl a) (F : FA C.ρ s) : PureOk C s bl a o L := by
  unfold pureStep at h
  split at h
  · -- move
    rename_i x ho
    split at h
    · rename_i av hx
      obtain ⟨he, hok⟩ := M.eval hx
      exact pure_put M F hok h fun w => by simp [execOp, ho, he]
    · cases h
  · -- assign
    rename_i x ho
    split at h
    · rename_i av hx
      obtain ⟨he, hok⟩ := M.eval hx
      exact pure_put M F hok h fun w => by simp [execOp, ho, he]
    · cases h
  · -- pick
    rename_i c x y ho
    split at h
    · rename_i neg r hc
      obtain ⟨hec, _⟩ := M.eval hc
      obtain ⟨pc, hmem, F'⟩ := split_ok F neg r
      obtain ⟨q, qs, hq, hsub⟩ := collect_mem h _ hmem
      have M' : MF C { s with pc := pc } bl a := M.emit _ _ _ _
      dsimp only at hq
      cases ht : truth C.ρ neg r with
      | true =>
        rw [ht] at hq
        dsimp only at hq
        split at hq
        · rename_i va hx
          obtain ⟨hex, hokx⟩ := M.eval hx
          obtain ⟨s', h1, h2, h3, h4⟩ := put1_ok M' F' (av := va) hokx hq
          exact ⟨_, s', hsub _ h1, fun w => by simp [execOp, ho, hec, hex, AV.conc, ht, asBool], h2, h3, h4⟩
        · cases hq
      | false =>
        rw [ht] at hq
        dsimp only at hq
        split at hq
        · rename_i vb hy
          obtain ⟨hey, hoky⟩ := M.eval hy
          obtain ⟨s', h1, h2, h3, h4⟩ := put1_ok M' F' (av := vb) hoky hq
          exact ⟨_, s', hsub _ h1, fun w => by simp [execOp, ho, hec, hey, AV.conc, ht, asBool], h2, h3, h4⟩
        · cases hq
    · cases h
  · -- not
    rename_i t x ho
    split at h
    · rename_i neg r hx
      obtain ⟨he, _⟩ := M.eval hx
      refine pure_put M F (av := .bool (!neg) r) trivial h fun w => ?_
      simp [execOp, ho, he, AV.conc, Op.unary, truth]
    · cases h
  · -- nilCheck
    rename_i x ho
    split at h
    · rename_i k off hx
      obtain ⟨he, hok⟩ := M.eval hx
      exact pure_put M F (av := .cell k off) hok h fun w => by simp [execOp, ho, he, AV.conc]
    · cases h
  · -- indexAddr
    rename_i t x i ho
    split at h
    · rename_i k off j n hx hi hn
      split at h
      · rename_i hj
        have hj' : j < n.1 := by simpa using hj
        obtain ⟨he, hok⟩ := M.eval hx
        obtain ⟨kk, hk⟩ := eval_nat (a := a) hi
        obtain ⟨e, h1, -, h2, -⟩ := hT.arr t n.1 n.2 (look_mem hn)
        refine pure_put M F (av := .cell k (off + j)) hok h fun w => ?_
        have hj0 : (0 : Int) ≤ (j : Int) := by omega
        have hjn : (j : Int) < (n.1 : Int) := by omega
        simp only [execOp, ho, he, hk, AV.conc, Instr.indexAt, asIntOf, Sem.run_bind, Sem.run_pure, Result.andThen_ok, run_underlying' h1, Instr.sureAddr, hj0, hjn, and_self, if_true, run_sizeOf' h2, Nat.mul_one, Int.toNat_natCast]
        congr 3
        unfold Addr.add
        split
        · rename_i h0; rw [h0]; simp
        · rfl
      · cases h
    · cases h
  · -- slice
    rename_i t x ho
    split at h
    · rename_i k n hx hn
      split at h
      · rename_i b hb
        split at h
        · obtain ⟨he, hok⟩ := M.eval hx
          obtain ⟨e, h1, -, h2, -⟩ := hT.arr t n.1 n.2 (look_mem hn)
          refine pure_put M F (av := .slice k n.1) hok h fun w => ?_
          simp [execOp, ho, he, AV.conc, Instr.sliceAt, Instr.sliceBounds, run_underlying' h1, Instr.sureAddr, run_sizeOf' h2, Addr.add]
        · cases h
      · cases h
    · cases h
  · -- convert
    rename_i src dst x ho
    split at h
    · rename_i r hx
      obtain ⟨he, hok⟩ := M.eval hx
      have hr : r.val C.ρ < 18446744073709551616 := hok
      split at h
      · rename_i hm
        rw [Bool.and_eq_true] at hm
        obtain ⟨h1, -⟩ := hT.word _ (isIn_mem hm.1)
        obtain ⟨h2, -⟩ := hT.word _ (isIn_mem hm.2)
        refine pure_put M F (av := .w r) hok h fun w => ?_
        simp only [execOp, ho, he, AV.conc, convert, Sem.run_bind, run_underlying' h1, run_underlying' h2, Result.andThen_ok, Conv.intToInt, Sem.run_pure, IntKind.wrap_u64]
        congr 3
        omega
      · split at h
        · rename_i hm
          rw [Bool.and_eq_true] at hm
          obtain ⟨h1, -⟩ := hT.word _ (isIn_mem hm.1)
          obtain ⟨h2, -⟩ := hT.byte _ (isIn_mem hm.2)
          have hs : C.ρ s.n = r.val C.ρ % 256 := sat_head (ins := .low s.n r) rfl h hsat
          refine pure_put (s := { s with n := s.n + 1, out := .low s.n r :: s.out }) (M.emit _ _ _ _) (F.emit _ _ _ _ _) (av := .b (.v s.n)) (by simp only [AV.ok, Ref.val, hs]; omega) h fun w => ?_
          simp only [execOp, ho, he, AV.conc, convert, Sem.run_bind, run_underlying' h1, run_underlying' h2, Result.andThen_ok, Conv.intToInt, Sem.run_pure, IntKind.wrap_u8, Ref.val, hs]
          congr 3
        · cases h
    · rename_i r hx
      obtain ⟨he, hok⟩ := M.eval hx
      have hr : r.val C.ρ < 256 := hok
      split at h
      · rename_i hm
        rw [Bool.and_eq_true] at hm
        obtain ⟨h1, -⟩ := hT.byte _ (isIn_mem hm.1)
        obtain ⟨h2, -⟩ := hT.word _ (isIn_mem hm.2)
        refine pure_put M F (av := .w r) (by simp only [AV.ok]; omega) h fun w => ?_
        simp only [execOp, ho, he, AV.conc, convert, Sem.run_bind, run_underlying' h1, run_underlying' h2, Result.andThen_ok, Conv.intToInt, Sem.run_pure, IntKind.wrap_u64]
        congr 3
        omega
      · cases h
    · cases h
  · -- add
    rename_i t x y t' ho
    split at h
    · rename_i r r' hx hy
      obtain ⟨he, hok⟩ := M.eval hx
      obtain ⟨he', hok'⟩ := M.eval hy
      have hs : C.ρ s.n = (r.val C.ρ + r'.val C.ρ) % 18446744073709551616 := sat_head (ins := .plus s.n r r') rfl h hsat
      refine pure_put (s := { s with n := s.n + 1, out := .plus s.n r r' :: s.out }) (M.emit _ _ _ _) (F.emit _ _ _ _ _) (av := .w (.v s.n)) (by simp only [AV.ok, Ref.val, hs]; omega) h fun w => ?_
      simp only [execOp, ho, he, he', AV.conc, eqGuard, binOp, Op.intArith, Sem.run_bind, Sem.run_pure, IntKind.wrap_u64, val_v, hs]
      simp
    · cases h
  · -- shl
    rename_i t x y t' ho
    split at h
    · rename_i r k hx hy
      split at h
      · rename_i hk
        have hk' : k < 64 := by simpa using hk
        obtain ⟨he, hok⟩ := M.eval hx
        obtain ⟨kk, he'⟩ := eval_nat (a := a) hy
        have hs : C.ρ s.n = r.val C.ρ * 2 ^ k % 18446744073709551616 := sat_head (ins := .shl s.n r k) rfl h hsat
        refine pure_put (s := { s with n := s.n + 1, out := .shl s.n r k :: s.out }) (M.emit _ _ _ _) (F.emit _ _ _ _ _) (av := .w (.v s.n)) (by simp only [AV.ok, Ref.val, hs]; omega) h fun w => ?_
        simp only [execOp, ho, he, he', AV.conc, eqGuard, binOp, Sem.run_bind, val_v, hs]
        simp [run_shl .u64 kk (r.val C.ρ) k rfl hk']
      · cases h
    · cases h
  · -- shr
    rename_i t x y t' ho
    split at h
    · rename_i r k hx hy
      split at h
      · rename_i hk
        have hk' : k < 64 := by simpa using hk
        obtain ⟨he, hok⟩ := M.eval hx
        obtain ⟨kk, he'⟩ := eval_nat (a := a) hy
        have hr : r.val C.ρ < 18446744073709551616 := hok
        have hs : C.ρ s.n = r.val C.ρ / 2 ^ k := sat_head (ins := .shr s.n r k) rfl h hsat
        refine pure_put (s := { s with n := s.n + 1, out := .shr s.n r k :: s.out }) (M.emit _ _ _ _) (F.emit _ _ _ _ _) (av := .w (.v s.n)) (by simp only [AV.ok, Ref.val, hs]; exact Nat.lt_of_le_of_lt (Nat.div_le_self _ _) hr) h fun w => ?_
        simp only [execOp, ho, he, he', AV.conc, eqGuard, binOp, Sem.run_bind, val_v, hs]
        simp [run_shr .u64 kk (r.val C.ρ) k rfl hk']
      · cases h
    · cases h
  · -- eql
    rename_i t x y t' ho
    split at h
    · rename_i l l' n hx hy hn
      split at h
      · rename_i xs ys hxs hys
        split at h
        · rename_i hlen
          rw [Bool.and_eq_true] at hlen
          obtain ⟨he, _⟩ := M.eval hx
          obtain ⟨he', _⟩ := M.eval hy
          obtain ⟨e, h1, h2, h3, h4, h5⟩ := hT.arr t n.1 n.2 (look_mem hn)
          have hs : C.ρ s.n = if vals C.ρ xs = vals C.ρ ys then 1 else 0 := sat_head (ins := .same s.n xs ys) rfl h hsat
          refine pure_put (s := { s with n := s.n + 1, out := .same s.n xs ys :: s.out }) (M.emit _ _ _ _) (F.emit _ _ _ _ _) (av := .bool false (.v s.n)) trivial h fun w => ?_
          rw [refsOf_eq hxs] at he
          rw [refsOf_eq hys] at he'
          have hq := run_equalIn_array n.2 h1 h2 h3 9998 C.ρ xs ys (Nat.eq_of_beq_eq_true hlen.1) (Nat.eq_of_beq_eq_true hlen.2) w
          simp only [execOp, ho, he, he', AV.conc, Sem.run_bind, run_eqGuard_agg w .eql t x y _ _ h5, Result.andThen_ok, run_eql_struct, hq, Sem.run_pure]
          unfold truth
          rw [val_v, hs]
          by_cases hv : vals C.ρ xs = vals C.ρ ys
          · simp only [hv, if_true, decide_true]; rfl
          · simp only [hv, if_false, decide_false]; rfl
        · cases h
      · cases h
    · cases h
  · -- build
    rename_i t parts ho
    split at h
    · rename_i n hn hp
      obtain ⟨e, h1, -, h2, h3, -⟩ := hT.arr t n.1 n.2 (look_mem hn)
      refine pure_put M F (av := .agg (List.replicate n.1 (n.2, .k 0))) zeros_ok h fun w => ?_
      have hparts : parts = #[] := Array.ext' (by rw [hp])
      simp only [execOp, ho, hparts, AV.conc, map_replicate_zero, Instr.build, Sem.run_bind, run_zeroOf h3, Result.andThen_ok, run_underlying' h1, run_sizeOf' h2]
      simp [Instr.fill, Value.cells]
    · cases h
  · -- extract
    rename_i t j ho
    split at h
    · rename_i r r' hx
      obtain ⟨h1, h2⟩ := M.tm t _ hx
      have he : a.eval (.tmp t) = AV.conc C.ρ (blk bl) (.pair r r') := by simp [Act.eval, Array.getD_eq_getD_getElem?, h1]
      split at h
      · exact pure_put M F (av := .w r) h2.1 h fun w => by simp [execOp, ho, he, AV.conc, Instr.extract]
      · exact pure_put M F (av := .w r') h2.2 h fun w => by simp [execOp, ho, he, AV.conc, Instr.extract]
      · cases h
    · cases h
  · -- call
    rename_i c ho
    split at h
    · rename_i f hf
      split at h
      · -- add
        rename_i hfm
        have hfm := Nat.eq_of_beq_eq_true hfm
        split at h
        · rename_i x y z hargs
          split at h
          · rename_i r r' c' hx hy hz
            split at h
            · rename_i hb
              obtain ⟨he, hok⟩ := M.eval hx
              obtain ⟨he', hok'⟩ := M.eval hy
              obtain ⟨he'', _⟩ := M.eval hz
              have hb := F.isBit hb
              obtain ⟨hs, hs'⟩ : C.ρ s.n = _ ∧ C.ρ (s.n + 1) = _ := sat_head (ins := .add s.n r r' c') rfl h hsat
              have hok : r.val C.ρ < 18446744073709551616 := hok
              have hok' : r'.val C.ρ < 18446744073709551616 := hok'
              have hbit : C.ρ (s.n + 1) ≤ 1 := by rw [hs']; omega
              refine pure_put (s := { s with n := s.n + 2, cb := s.cb ||| 2 ^ (s.n + 1), out := .add s.n r r' c' :: s.out }) (M.emit _ _ _ _) (F.bit _ _ _ hbit) (av := .pair (.v s.n) (.v (s.n + 1))) ⟨?_, ?_⟩ h fun w => ?_
              · show C.ρ s.n < _
                rw [hs]; omega
              · show C.ρ (s.n + 1) < _
                omega
              · have hrun := hT.addF _ hfm (r.val C.ρ) (r'.val C.ρ) (c'.val C.ρ) hb w
                rw [resolve_call a ho hf, args_three hargs, he, he', he'']
                simp only [AV.conc, val_v] at hrun ⊢
                rw [hrun, ← hs, ← hs']
            · cases h
          · cases h
        · cases h
      · split at h
        · -- sub
          rename_i hfm
          have hfm := Nat.eq_of_beq_eq_true hfm
          split at h
          · rename_i x y z hargs
            split at h
            · rename_i r r' c' hx hy hz
              split at h
              · rename_i hb
                obtain ⟨he, hok⟩ := M.eval hx
                obtain ⟨he', hok'⟩ := M.eval hy
                obtain ⟨he'', _⟩ := M.eval hz
                have hb := F.isBit hb
                obtain ⟨hs, hs'⟩ : C.ρ s.n = _ ∧ C.ρ (s.n + 1) = _ := sat_head (ins := .sub s.n r r' c') rfl h hsat
                have hbit : C.ρ (s.n + 1) ≤ 1 := by rw [hs']; split <;> omega
                refine pure_put (s := { s with n := s.n + 2, cb := s.cb ||| 2 ^ (s.n + 1), out := .sub s.n r r' c' :: s.out }) (M.emit _ _ _ _) (F.bit _ _ _ hbit) (av := .pair (.v s.n) (.v (s.n + 1))) ⟨?_, ?_⟩ h fun w => ?_
                · show C.ρ s.n < _
                  rw [hs]; omega
                · show C.ρ (s.n + 1) < _
                  omega
                · have hrun := hT.subF _ hfm (r.val C.ρ) (r'.val C.ρ) (c'.val C.ρ) hb w
                  rw [resolve_call a ho hf, args_three hargs, he, he', he'']
                  simp only [AV.conc, val_v] at hrun ⊢
                  rw [hrun, ← hs, ← hs']
              · cases h
            · cases h
          · cases h
        · cases h
    · cases h
  · cases h

end
end Go.Fiat

/- A symbolic executor for code over words: any operation; regions in the order of the text and in every order; whole texts; functions. -/
import Derived.Test.YtcpnimnilojooaaSy6
namespace Go.Fiat
open Go

theorem enters_of' {P : Program} {f : FuncId} {fn : Func} {c : Code} (hf : P.funcs[f]? = some fn) (hname : (fn.name == "runtime.NumGoroutine") = false) (hb : fn.body = some c) (args : Array Value) (w : World) :
    (callFunc f args).run P w = .ok (.enter f args) w := by
  have h1 : fn.name ≠ "runtime.NumGoroutine" := by simpa using hname
  simp [callFunc, hf, h1, hb, mark]

/-- What is asked of the handler. -/
def HandOk (C : Ctx) (H : Handler) : Prop :=
  ∀ f fn args s L, C.P.funcs[f]? = some fn → H fn args s = some L →
    (∀ x ∈ L, x.2.tm = s.tm ∧ x.2.N = s.N ∧ x.2.mem.length = s.mem.length) ∧
    ∀ bl w, MM C s bl w → FA C.ρ s → (∀ av ∈ args, av.ok C.ρ s.mem.length) → (∀ x ∈ L, ∀ i ∈ x.2.out, i.sat C.ρ) →
      Calls C.P f (args.map (AV.conc C.ρ (blk bl))).toArray w fun e w' => ∃ v x, x ∈ L ∧ e = .returned v ∧ (∀ av, x.1 = some av → v = av.conc C.ρ (blk bl) ∧ av.ok C.ρ s.mem.length) ∧ MM C x.2 bl w' ∧ FA C.ρ x.2

/-- A handler that answers only for functions with a body. -/
def HandBody (H : Handler) : Prop := ∀ fn args s r, H fn args s = some r → ∃ c, fn.body = some c
/-- What has been given out stays given out. -/
def HandOut (H : Handler) : Prop := ∀ fn args s L, H fn args s = some L → ∀ x ∈ L, ∀ i ∈ s.out, i ∈ x.2.out

def OrcsOk (P : Program) (T : Tab) : Prop := ∀ f orc, (f, orc) ∈ T.orcs → Enters' P f ∧ orcFit orc ∧ OrcOk P f orc

theorem put1_outs {s : St} {dst : Option Tmp} {av : Option AV} {L : List St} (h : s.put1 dst av = some L) : ∀ s' ∈ L, s'.out = s.out := by
  obtain ⟨s', h1, rfl⟩ := put1_some h
  intro x hx
  rw [List.mem_singleton.1 hx]; exact (put_same h1).1

theorem split_outs {s : St} {neg : Bool} {r : Ref} : ∀ x ∈ splitB s neg r, x.2.out = s.out := by
  intro x hx
  unfold splitB at hx
  split at hx
  · rw [List.mem_singleton.1 hx]
  · split at hx
    · rw [List.mem_singleton.1 hx]
    · rcases List.mem_cons.1 hx with rfl | hx
      · rfl
      · rw [List.mem_singleton.1 hx]

theorem pure_out {T : Tab} {o : Oper} {s : St} {L : List St} (h : pureStep T o s = some L) : ∀ s' ∈ L, ∀ i ∈ s.out, i ∈ s'.out := by
  intro s' hs' i hi
  unfold pureStep at h
  repeat' split at h
  all_goals first
    | (cases h; done)
    | (rw [put1_outs h s' hs']; first | exact hi | exact List.mem_cons_of_mem _ hi)
    | (obtain ⟨z, hz, L', h1, h2⟩ := collect_from h s' hs'
       have hz' := split_outs z hz
       repeat' split at h1
       all_goals first
         | (cases h1; done)
         | (rw [put1_outs h1 s' h2, hz']; exact hi))

theorem orc_out {orc : Orc} {args : List AV} {dst : Option Tmp} {s : St} {L : List St} (h : orcStep orc args dst s = some L) : ∀ s' ∈ L, ∀ i ∈ s.out, i ∈ s'.out := by
  intro s' hs' i hi
  unfold orcStep at h
  repeat' split at h
  all_goals first
    | (cases h; done)
    | (rw [put1_outs h s' hs']; first | exact hi | exact List.mem_cons_of_mem _ hi)

theorem step_out {T : Tab} {H : Handler} (hO : HandOut H) {o : Oper} {s : St} {L : List St} (h : opStep T H o s = some L) : ∀ s' ∈ L, ∀ i ∈ s.out, i ∈ s'.out := by
  intro s' hs' i hi
  unfold opStep at h
  repeat' split at h
  all_goals first
    | (cases h; done)
    | exact pure_out h s' hs' i hi
    | exact orc_out h s' hs' i hi
    | (rw [put1_outs h s' hs']; first | exact hi | exact List.mem_cons_of_mem _ hi)
    | (rw [← Option.some.inj h] at hs'; rw [List.mem_singleton.1 hs']; exact hi)
    | (rename_i hc
       obtain ⟨z, hz, L', h1, h2⟩ := collect_from h s' hs'
       rw [put1_outs h1 s' h2]
       exact hO _ _ _ _ hc z hz i hi)

section
variable {C : Ctx} {T : Tab} {H : Handler} {s s' : St} {bl : List Nat} {a : Act} {w w' : World} {o : Oper} {L : List St}

theorem pure_wp (hT : TabOk C.P T) {Q : Exit → Act → World → Prop} (h : pureStep T o s = some L) (hsat : ∀ s' ∈ L, ∀ i ∈ s'.out, i.sat C.ρ) (M : MF C s bl a) (W : MM C s bl w) (F : FA C.ρ s) : o.wp C.P a w (Rel C L bl) Q := by
  obtain ⟨v, s', h1, h2, h3, h4, h5⟩ := pure_sound hT h hsat M F
  unfold Oper.wp
  rw [h2 w, Oper.upon_value]
  exact ⟨s', h1, [], by rw [List.append_nil]; exact h3, by rw [List.append_nil]; exact W.same h5, h4⟩

theorem store_one (hT : TabOk C.P T) {t : Nat} {x y : Operand} (ho : o.op = .store t x y) {k off : Nat} {kd : Bool} {r : Ref} (hx : opnd s x = some (.cell k off)) (hy : opnd s y = some (AV.ofS (kd, r)))
    (ht : (isIn t T.word || isIn t T.byte) = true) {m : List (Nat × List (Bool × Ref))} (hm : updBlk s.mem k (setAt off (kd, r)) = some m) (hd : o.dst = none) (hL : L = [{ s with mem := m }]) (M : MF C s bl a) (W : MM C s bl w) (F : FA C.ρ s) :
    o.wp C.P a w (Rel C L bl) (fun _ _ _ => False) := by
  obtain ⟨he, _⟩ := M.eval hx
  obtain ⟨he', hok⟩ := M.eval hy
  obtain ⟨_, hsz⟩ := ok_word hT ht
  obtain ⟨b, l, hb, hl, hlen, -⟩ := updBlk_spec hm
  obtain ⟨hoff, hl2⟩ : off < b.2.length ∧ b.2.set off (kd, r) = l := by
    unfold setAt at hl
    split at hl
    · rename_i h1; exact ⟨by simpa using h1, Option.some.inj hl⟩
    · cases hl
  obtain ⟨hc, _, hf⟩ := W.cell hb (List.getElem?_eq_getElem hoff)
  obtain ⟨hw, hbok⟩ := W.mem k b hb
  rw [AV.conc_ofS] at he'
  have hsok : sOk C.ρ (kd, r) := by cases kd <;> exact hok
  have hrun : (execOp a.eval o).run C.P w = .ok .skip (w.setCell ⟨blk bl k, off, none⟩ (sv C.ρ (kd, r))) := by
    simp only [execOp, ho, he, he', AV.conc, sv, Sem.run_bind, run_storeAt1 hsz hc hf, Result.andThen_ok, Sem.run_pure]
  unfold Oper.wp
  rw [hrun, Oper.upon_skip, hd]
  refine ⟨{ s with mem := m }, by rw [hL]; exact List.mem_singleton.2 rfl, [], ?_, ?_, F.emit _ _ _ _ _⟩
  · rw [List.append_nil]
    exact ⟨M.size, M.defers, fun t av h => ⟨(M.tm t av h).1, (M.tm t av h).2.mono (by rw [hlen]; exact Nat.le_refl _)⟩⟩
  · rw [List.append_nil]
    refine W.turn hm hb hl ?_ ?_
    · intro z hz
      rw [← hl2] at hz
      rcases List.mem_or_eq_of_mem_set hz with h1 | h1
      · exact hbok z h1
      · rw [h1]; exact hsok
    · rw [← hl2, set_map]
      exact turned_setCell hw

theorem step_sound (hT : TabOk C.P T) (hO : OrcsOk C.P T) (hH : HandOk C H) (hB : HandBody H) (h : opStep T H o s = some L) (hsat : ∀ s' ∈ L, ∀ i ∈ s'.out, i.sat C.ρ) (M : MF C s bl a) (W : MM C s bl w) (F : FA C.ρ s) :
    o.wp C.P a w (Rel C L bl) (fun _ _ _ => False) := by
  unfold opStep at h
  split at h
  · -- load
    rename_i t x ho
    split at h
    · rename_i k off hx
      obtain ⟨he, _⟩ := M.eval hx
      split at h
      · rename_i b hb
        split at h
        · rename_i ht
          split at h
          · rename_i y hy
            obtain ⟨hc, hok, _⟩ := W.cell hb hy
            obtain ⟨⟨kk, hu⟩, _⟩ := ok_word hT ht
            have hrun : (execOp a.eval o).run C.P w = .ok (.value ((AV.ofS y).conc C.ρ (blk bl))) w := by
              simp [execOp, ho, he, AV.conc, Instr.loadAt, Instr.sureAddr, loadVar, isAgg_word hu]
              rw [hc]
              rfl
            unfold Oper.wp
            rw [hrun, Oper.upon_value]
            exact rel_one M W F rfl (ok_ofS hok) h
          · cases h
        · split at h
          · rename_i n hn _
            split at h
            · rename_i hlen
              have hlen := Nat.eq_of_beq_eq_true hlen
              obtain ⟨hw, hok⟩ := W.mem k b hb
              obtain ⟨e, h1, -, -, h3, -⟩ := hT.arr t n.1 n.2 (look_mem hn)
              have := run_loadVar_row w (blk bl k) b.1 t (b.2.map (sv C.ρ)).toArray (0, 0) (.array n.1 e) hw h1 rfl (by rw [size_of_both h3]; simp [hlen])
              have hrun : (execOp a.eval o).run C.P w = .ok (.value (AV.conc C.ρ (blk bl) (.agg b.2))) w := by
                simp only [execOp, ho, he, AV.conc, Instr.loadAt, Instr.sureAddr, Sem.run_bind, Sem.run_pure, Result.andThen_ok, this]
              unfold Oper.wp
              rw [hrun, Oper.upon_value]
              exact rel_one M W F rfl hok h
            · cases h
          · cases h
      · cases h
    · cases h
  · -- store
    rename_i t x y ho
    split at h
    · rename_i k off r hx hy
      split at h
      · rename_i m ht hm hd
        exact store_one (kd := true) hT ho hx hy ht hm hd (Option.some.inj h).symm M W F
      · cases h
    · rename_i k off r hx hy
      split at h
      · rename_i m ht hm hd
        exact store_one (kd := false) hT ho hx hy ht hm hd (Option.some.inj h).symm M W F
      · cases h
    · rename_i k l hx hy
      split at h
      · rename_i n m hn hm hd
        split at h
        · rename_i hlen
          have hlen := Nat.eq_of_beq_eq_true hlen
          obtain ⟨he, _⟩ := M.eval hx
          obtain ⟨he', hok⟩ := M.eval hy
          obtain ⟨b, l', hb, hl, hmlen, -⟩ := updBlk_spec hm
          obtain ⟨hll, hl2⟩ : b.2.length = l.length ∧ l = l' := by
            unfold setAll at hl
            split at hl
            · rename_i h1; exact ⟨Nat.eq_of_beq_eq_true h1, Option.some.inj hl⟩
            · cases hl
          subst hl2
          obtain ⟨hw, _⟩ := W.mem k b hb
          obtain ⟨e, -, -, -, h3, -⟩ := hT.arr t n.1 n.2 (look_mem hn)
          obtain ⟨w', hrun', hturn⟩ := run_storeRow (P := C.P) (ρ := C.ρ) (l := l) (by rw [size_of_both h3, hlen]) hw (by simp [hll])
          have hrun : (execOp a.eval o).run C.P w = .ok .skip w' := by
            simp only [execOp, ho, he, he', AV.conc, Sem.run_bind, hrun', Result.andThen_ok, Sem.run_pure]
          unfold Oper.wp
          rw [hrun, Oper.upon_skip, hd]
          refine ⟨{ s with mem := m }, by rw [← Option.some.inj h]; exact List.mem_singleton.2 rfl, [], ?_, ?_, F.emit _ _ _ _ _⟩
          · rw [List.append_nil]
            exact ⟨M.size, M.defers, fun t av h => ⟨(M.tm t av h).1, (M.tm t av h).2.mono (by rw [hmlen]; exact Nat.le_refl _)⟩⟩
          · rw [List.append_nil]
            exact W.turn hm hb hl hok hturn
        · cases h
      · cases h
    · cases h
  · -- alloc
    rename_i t ho
    split at h
    · rename_i ht
      obtain ⟨_, hz⟩ := hT.word _ (isIn_mem ht)
      have hrun : (execOp a.eval o).run C.P w = .ok (.value (.pointer (some ⟨w.heap.size, 0, none⟩))) (w.alloc (.cells ([(true, Ref.k 0)].map (sv C.ρ)).toArray t)) := by
        simp only [execOp, ho, Sem.run_bind, run_alloc1 hz, Result.andThen_ok, Sem.run_pure]
        rfl
      unfold Oper.wp
      rw [hrun, Oper.upon_value]
      refine rel_new M W F (Keeps.alloc _ _ _) (Nat.le_refl _) (heap_new _ _) (fun x hx => ?_) ?_ (Nat.lt_succ_self _) h
      · rw [List.mem_singleton.1 hx]; show (0 : Nat) < _; decide
      · show _ = Value.pointer (some ⟨blk (bl ++ [w.heap.size]) s.mem.length, 0, none⟩)
        rw [← W.len, blk_last]
    · split at h
      · rename_i n hn
        obtain ⟨e, -, -, -, hz, -⟩ := hT.arr t n.1 n.2 (look_mem hn)
        have hrun : (execOp a.eval o).run C.P w = .ok (.value (.pointer (some ⟨w.heap.size, 0, none⟩))) (w.alloc (.cells ((List.replicate n.1 (n.2, Ref.k 0)).map (sv C.ρ)).toArray t)) := by
          simp only [execOp, ho, Sem.run_bind, run_alloc1 hz, Result.andThen_ok, Sem.run_pure, map_replicate_zero, Value.cells]
        unfold Oper.wp
        rw [hrun, Oper.upon_value]
        refine rel_new M W F (Keeps.alloc _ _ _) (Nat.le_refl _) (heap_new _ _) zeros_ok ?_ (Nat.lt_succ_self _) h
        show _ = Value.pointer (some ⟨blk (bl ++ [w.heap.size]) s.mem.length, 0, none⟩)
        rw [← W.len, blk_last]
      · cases h
  · -- box
    rename_i t x ho
    split at h
    · rename_i l hx
      obtain ⟨he, hok⟩ := M.eval hx
      have hrun : (execOp a.eval o).run C.P w = .ok (.value (.pointer (some ⟨w.heap.size, 0, none⟩))) (w.alloc (.cells (l.map (sv C.ρ)).toArray t)) := by
        simp only [execOp, ho, he, Instr.box, newVar, newRow, Value.cells, Sem.run_bind, Sem.run_pure, run_newObj, Result.andThen_ok, AV.conc]
        rfl
      unfold Oper.wp
      rw [hrun, Oper.upon_value]
      refine rel_new M W F (Keeps.alloc _ _ _) (Nat.le_refl _) (heap_new _ _) hok ?_ (Nat.lt_succ_self _) h
      show _ = Value.pointer (some ⟨blk (bl ++ [w.heap.size]) s.mem.length, 0, none⟩)
      rw [← W.len, blk_last]
    · cases h
  · -- call
    rename_i c ho
    split at h
    · rename_i f hf
      split at h
      · rename_i args hargs
        obtain ⟨ev, hok⟩ := M.evals hargs
        have eargs : c.args.map a.eval = (args.map (AV.conc C.ρ (blk bl))).toArray := by
          apply Array.ext'
          simp [ev]
        split at h
        · -- an oracle
          rename_i orc horc
          obtain ⟨⟨fn, cc, hP, hname, hbody⟩, hfit, hcon⟩ := hO f orc (look_mem horc)
          unfold Oper.wp
          rw [resolve_call a ho hf, eargs, enters_of' hP hname hbody, Oper.upon_enter]
          refine (orc_sound hcon hfit h hsat M W F hok).mono fun e w' ⟨v, he, hr⟩ => ?_
          subst he
          exact hr
        · split at h
          · -- of a function of the tables
            rename_i fn hfn
            split at h
            · rename_i L1 h1
              obtain ⟨hP, hname⟩ := hT.funs f fn (look_mem hfn)
              obtain ⟨cc, hbody⟩ := hB fn args s _ h1
              obtain ⟨hsame, hcall⟩ := hH f fn args s L1 hP h1
              have hsub := collect_mem h
              have hcall := hcall bl w W F hok (fun x hx i hi => by
                obtain ⟨y, ys, h2, h3⟩ := hsub x hx
                exact hsat y (h3 y List.mem_cons_self) i (by rw [put1_outs h2 y List.mem_cons_self]; exact hi))
              unfold Oper.wp
              rw [resolve_call a ho hf, eargs, enters_of' hP hname hbody, Oper.upon_enter]
              refine hcall.mono fun e w' ⟨v, x, hx, he, hv, W1, F1⟩ => ?_
              subst he
              obtain ⟨e1, e2, e3⟩ := hsame x hx
              obtain ⟨y, ys, h2, h3⟩ := hsub x hx
              have M1 : MF C x.2 bl a := ⟨by rw [e2]; exact M.size, M.defers, by rw [e1, e3]; exact M.tm⟩
              obtain ⟨s2, hs2, t, hr⟩ := rel_put (L := y :: ys) M1 W1 F1 (by rw [e3]; exact hv) h2
              exact ⟨s2, h3 s2 hs2, t, hr⟩
            · cases h
          · split at h
            · -- mul
              rename_i hfm
              have hfm := Nat.eq_of_beq_eq_true hfm
              split at h
              · rename_i r r'
                have hok1 : r.val C.ρ < 18446744073709551616 := hok (.w r) (by simp)
                have hok2 : r'.val C.ρ < 18446744073709551616 := hok (.w r') (by simp)
                obtain ⟨hs, hs'⟩ : C.ρ s.n = _ ∧ C.ρ (s.n + 1) = _ := sat_head (ins := .mul s.n r r') rfl h hsat
                obtain ⟨hrun, hcall⟩ := hT.mul _ hfm (r.val C.ρ) (r'.val C.ρ) hok1 hok2 w
                have eargs' : c.args.map a.eval = #[.int .u64 (r.val C.ρ : Nat), .int .u64 (r'.val C.ρ : Nat)] := by
                  rw [eargs]; simp [AV.conc]
                unfold Oper.wp
                rw [resolve_call a ho hf, eargs', hrun, Oper.upon_enter]
                refine hcall.mono fun e w' ⟨he, hw⟩ => ?_
                subst he; subst hw
                rw [← hs, ← hs']
                refine rel_one (s := { s with n := s.n + 2, out := .mul s.n r r' :: s.out }) (M.emit _ _ _ _) (W.same rfl) (F.emit _ _ _ _ _) (av := .pair (.v s.n) (.v (s.n + 1))) rfl ⟨?_, ?_⟩ h
                · show C.ρ s.n < _
                  rw [hs]
                  exact Nat.div_lt_of_lt_mul (Nat.mul_lt_mul'' hok1 hok2)
                · show C.ρ (s.n + 1) < _
                  rw [hs']; omega
              · cases h
            · split at h
              · -- cmov
                rename_i hfm
                have hfm := Nat.eq_of_beq_eq_true hfm
                split at h
                · rename_i k off c' r r'
                  split at h
                  · rename_i hb
                    split at h
                    · rename_i m hm
                      have hok1 : r.val C.ρ < 18446744073709551616 := hok (.w r) (by simp)
                      have hok2 : r'.val C.ρ < 18446744073709551616 := hok (.w r') (by simp)
                      have hb := F.isBit hb
                      have hs : C.ρ s.n = _ := sat_head (ins := .sel s.n c' r r') rfl h hsat
                      obtain ⟨b, l, hbm, hl, hmlen, -⟩ := updBlk_spec hm
                      obtain ⟨hoff, hl2⟩ : off < b.2.length ∧ b.2.set off (true, .v s.n) = l := by
                        unfold setAt at hl
                        split at hl
                        · rename_i h1; exact ⟨by simpa using h1, Option.some.inj hl⟩
                        · cases hl
                      obtain ⟨hc, _, hfz⟩ := W.cell hbm (List.getElem?_eq_getElem hoff)
                      obtain ⟨hrun, hcall⟩ := hT.cmov _ hfm ⟨blk bl k, off, none⟩ (c'.val C.ρ) (r.val C.ρ) (r'.val C.ρ) _ w hb hok1 hok2 hc hfz
                      have eargs' : c.args.map a.eval = #[.pointer (some ⟨blk bl k, off, none⟩), .int .u64 (c'.val C.ρ : Nat), .int .u64 (r.val C.ρ : Nat), .int .u64 (r'.val C.ρ : Nat)] := by
                        rw [eargs]; simp [AV.conc]
                      unfold Oper.wp
                      rw [resolve_call a ho hf, eargs', hrun, Oper.upon_enter]
                      refine hcall.mono fun e w' ⟨he, hw⟩ => ?_
                      subst he; subst hw
                      rw [← hs]
                      have hvok : sOk C.ρ (true, .v s.n) := by
                        show C.ρ s.n < _
                        rw [hs]; split <;> assumption
                      obtain ⟨hw, hbok⟩ := W.mem k b hbm
                      have hturn : Turned w (w.setCell ⟨blk bl k, off, none⟩ (.int .u64 ((C.ρ s.n : Nat) : Int))) (blk bl k) (.cells (l.map (sv C.ρ)).toArray b.1 (0, 0)) := by
                        rw [← hl2, set_map]
                        exact turned_setCell hw
                      have W2 := W.turn hm hbm hl (fun q hq => by
                        rw [← hl2] at hq
                        rcases List.mem_or_eq_of_mem_set hq with h1 | h1
                        · exact hbok q h1
                        · rw [h1]; exact hvok) hturn
                      have M2 : MF C { s with mem := m } bl a := ⟨M.size, M.defers, fun t av h => ⟨(M.tm t av h).1, (M.tm t av h).2.mono (by rw [hmlen]; exact Nat.le_refl _)⟩⟩
                      exact rel_put (s := { s with n := s.n + 1, mem := m, out := .sel s.n c' r r' :: s.out }) (M2.emit _ _ _ _) (W2.same rfl) (F.emit _ _ _ _ _) (fun _ hx => by cases hx) h
                    · cases h
                  · cases h
                · cases h
              · exact pure_wp hT h hsat M W F
      · cases h
    · cases h
  · exact pure_wp hT h hsat M W F

end
end Go.Fiat

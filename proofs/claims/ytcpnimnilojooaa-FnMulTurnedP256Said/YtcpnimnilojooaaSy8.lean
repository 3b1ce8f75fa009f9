/- A symbolic executor for code over words: regions in the order of the text and in every order; whole texts; functions. -/
import Derived.Test.YtcpnimnilojooaaSy7
import Derived.OrdersHeld
namespace Go.Fiat
open Go

/-- An operation under its guard. -/
def guardStep (f : St → Option (List St)) (ops : Array Oper) (o : Oper) (s : St) : Option (List St) :=
  match o.guard with
  | none => f s
  | some (j, want) => match ops[j]? with
    | some oj => match oj.dst with
      | some d => match s.tm.get d with
        | some (.bool neg r) => collect (fun z => match z.1, want with
          | true, true => f z.2
          | false, false => f z.2
          | _, _ => z.2.put1 o.dst none) (splitB s neg r)
        | _ => none
      | none => none
    | none => none

def sxOps (T : Tab) (H : Handler) (ops : Array Oper) : List Oper → St → Option (List St)
  | [], s => some [s]
  | o :: r, s => match guardStep (opStep T H o) ops o s with
    | some L => collect (sxOps T H ops r) L
    | none => none

/-- The first that may come up, does not look at the world, and stands in nobody's way. -/
def firstPure (T : Tab) (ops : Array Oper) (listed : Array Bool) (s : St) : List Nat → Option (Nat × Oper × List St)
  | [] => none
  | i :: r => match ops[i]? with
    | some o => match guardStep (pureStep T o) ops o s, Region.free .any ops listed i with
      | some L, true => some (i, o, L)
      | _, _ => firstPure T ops listed s r
    | none => firstPure T ops listed s r

/-- A region in whatever order. -/
def sxAny (T : Tab) (H : Handler) (ops : Array Oper) : Nat → Array Bool → St → Option (List St)
  | 0, listed, s => match Region.ready .any ops listed with
    | [] => some [s]
    | _ :: _ => none
  | f + 1, listed, s => match Region.ready .any ops listed with
    | [] => some [s]
    | r :: rs => match firstPure T ops listed s (r :: rs) with
      | some (i, _, L) => collect (sxAny T H ops f (listed.setIfInBounds i true)) L
      | none => collect (fun i => match ops[i]? with
        | some o => match guardStep (opStep T H o) ops o s with
          | some L => collect (sxAny T H ops f (listed.setIfInBounds i true)) L
          | none => none
        | none => none) (r :: rs)

/-- A load of a block that stays as it is, or an operation that does not look at the world. -/
def stillStep (T : Tab) (mem0 : List (Nat × List (Bool × Ref))) (o : Oper) (s : St) : Option (List St) :=
  match o.op with
  | .load t x => match opnd s x with
    | some (.cell k off) => match mem0[k]? with
      | some b => match isIn t T.word || isIn t T.byte with
        | true => match b.2[off]? with
          | some x => s.put1 o.dst (some (AV.ofS x))
          | none => none
        | false => match look t T.arr, off with
          | some n, 0 => match Nat.beq b.2.length n.1 with
            | true => s.put1 o.dst (some (.agg b.2))
            | false => none
          | _, _ => none
      | none => none
    | _ => none
  | _ => pureStep T o s

def firstStill (T : Tab) (mem0 : List (Nat × List (Bool × Ref))) (ops : Array Oper) (listed : Array Bool) (s : St) : List Nat → Option (Nat × Oper × List St)
  | [] => none
  | i :: r => match ops[i]? with
    | some o => match guardStep (stillStep T mem0 o) ops o s, Region.free .any ops listed i with
      | some L, true => some (i, o, L)
      | _, _ => firstStill T mem0 ops listed s r
    | none => firstStill T mem0 ops listed s r

/-- What was known first is known still. -/
def keepsMem (mem0 : List (Nat × List (Bool × Ref))) (L : List St) : Bool := L.all fun s => decide (s.mem.take mem0.length = mem0)

/-- A region in whatever order that leaves the blocks that were known as they were. -/
def sxStill (T : Tab) (H : Handler) (mem0 : List (Nat × List (Bool × Ref))) (ops : Array Oper) : Nat → Array Bool → St → Option (List St)
  | 0, listed, s => match Region.ready .any ops listed with
    | [] => some [s]
    | _ :: _ => none
  | f + 1, listed, s => match Region.ready .any ops listed with
    | [] => some [s]
    | r :: rs => match firstStill T mem0 ops listed s (r :: rs) with
      | some (i, _, L) => collect (sxStill T H mem0 ops f (listed.setIfInBounds i true)) L
      | none => collect (fun i => match ops[i]? with
        | some o => match guardStep (opStep T H o) ops o s with
          | some L => match keepsMem mem0 L with
            | true => collect (sxStill T H mem0 ops f (listed.setIfInBounds i true)) L
            | false => none
          | none => none
        | none => none) (r :: rs)

/-- In the one way or the other. -/
def sxDrawn (T : Tab) (H : Handler) (ops : Array Oper) (s : St) : Option (List St) :=
  match sxStill T H s.mem ops ops.size (Array.replicate ops.size false) s with
  | some L => some L
  | none => sxAny T H ops ops.size (Array.replicate ops.size false) s

/-- Each once. -/
def dd {α : Type} [DecidableEq α] : List α → List α
  | [] => []
  | a :: r => match decide (a ∈ r) with
    | true => dd r
    | false => a :: dd r

theorem dd_mem {α : Type} [DecidableEq α] : ∀ {l : List α} {a : α}, a ∈ l → a ∈ dd l
  | b :: r, a, h => by
    unfold dd
    split
    · rename_i hb
      have hb := of_decide_eq_true hb
      rcases List.mem_cons.1 h with rfl | h
      · exact dd_mem hb
      · exact dd_mem h
    · rcases List.mem_cons.1 h with rfl | h
      · exact List.mem_cons_self
      · exact List.mem_cons_of_mem _ (dd_mem h)

theorem mem_dd {α : Type} [DecidableEq α] : ∀ {l : List α} {a : α}, a ∈ dd l → a ∈ l
  | [], a, h => by cases h
  | b :: r, a, h => by
    unfold dd at h
    split at h
    · exact List.mem_cons_of_mem _ (mem_dd h)
    · rcases List.mem_cons.1 h with rfl | h
      · exact List.mem_cons_self
      · exact List.mem_cons_of_mem _ (mem_dd h)

/-- A text; true: it has returned. -/
def sxCode (T : Tab) (H : Handler) : Code → St → Option (List (Bool × St))
  | .skip, s => some [(false, s)]
  | .ret, s => some [(true, s)]
  | .seq a b, s => match sxCode T H a s with
    | some L => collect (fun x => match x.1 with
      | true => some [(true, x.2)]
      | false => sxCode T H b x.2) L
    | none => none
  | .cond c x y, s => match opnd s c with
    | some (.bool neg r) => collect (fun z => match z.1 with
      | true => sxCode T H x z.2
      | false => sxCode T H y z.2) (splitB s neg r)
    | _ => none
  | .region _ ops false, s => match sxOps T H ops ops.toList s with
    | some L => some (L.map fun s => (false, s))
    | none => none
  | .region _ ops true, s => match Region.noSelect ops, sxDrawn T H ops s with
    | true, some L => some ((dd L).map fun s => (false, s))
    | _, _ => none
  | _, _ => none

def params : Nat → List AV → Tree → Tree
  | _, [], t => t
  | k, a :: r, t => params (k + 1) r (t.set 14 k (some a))

/-- What a function hands back. -/
def resOf (T : Tab) (s : St) : List ResultVar → Option (Option AV)
  | [] => some none
  | [.tmp t] => match s.tm.get t with
    | some av => some (some av)
    | none => none
  | [.cell t ty] => match s.tm.get t, look ty T.arr with
    | some (.cell k 0), some n => match s.mem[k]? with
      | some b => match Nat.beq b.2.length n.1 with
        | true => some (some (.agg b.2))
        | false => none
      | none => none
    | _, _ => none
  | _ => none

def plainRes : Option AV → Bool
  | none => true
  | some (.agg _) => true
  | some (.bool _ _) => true
  | _ => false

def runFun (T : Tab) : Nat → Handler
  | 0, _, _, _ => none
  | d + 1, fn, args, s => match fn.body with
    | none => none
    | some c => match Nat.ble args.length fn.ntmps with
      | false => none
      | true => match sxCode T (runFun T d) c { s with N := fn.ntmps, tm := params 0 args .leaf } with
        | none => none
        | some L => match collect (fun x => match resOf T x.2 fn.results.toList with
            | some r => match plainRes r && Nat.ble s.mem.length x.2.mem.length with
              | true => some [(r, { x.2 with N := s.N, tm := s.tm, mem := x.2.mem.take s.mem.length })]
              | false => none
            | none => none) L with
          | some L' => some (dd L')
          | none => none

theorem runFun_body (T : Tab) : ∀ d, HandBody (runFun T d)
  | 0 => fun fn args s r h => by simp [runFun] at h
  | d + 1 => fun fn args s r h => by
    unfold runFun at h
    split at h
    · cases h
    · rename_i c hc; exact ⟨c, hc⟩

theorem guard_out {f : St → Option (List St)} {ops : Array Oper} {o : Oper} (hf : ∀ s L, f s = some L → ∀ s' ∈ L, ∀ i ∈ s.out, i ∈ s'.out) {s : St} {L : List St} (h : guardStep f ops o s = some L) :
    ∀ s' ∈ L, ∀ i ∈ s.out, i ∈ s'.out := by
  intro s' hs' i hi
  unfold guardStep at h
  split at h
  · exact hf _ _ h s' hs' i hi
  · split at h
    · split at h
      · split at h
        · obtain ⟨z, hz, L', h1, h2⟩ := collect_from h s' hs'
          have hz' := split_outs z hz
          have hi' : i ∈ z.2.out := by rw [hz']; exact hi
          split at h1
          · exact hf _ _ h1 s' h2 i hi'
          · exact hf _ _ h1 s' h2 i hi'
          · rw [put1_outs h1 s' h2]; exact hi'
        · cases h
      · cases h
    · cases h

theorem ops_out {T : Tab} {H : Handler} (hO : HandOut H) {ops : Array Oper} : ∀ {l : List Oper} {s : St} {L : List St}, sxOps T H ops l s = some L → ∀ s' ∈ L, ∀ i ∈ s.out, i ∈ s'.out
  | [], s, L, h, s', hs', i, hi => by rw [← Option.some.inj h] at hs'; rw [List.mem_singleton.1 hs']; exact hi
  | o :: r, s, L, h, s', hs', i, hi => by
    unfold sxOps at h
    split at h
    · rename_i L1 h1
      obtain ⟨s1, hs1, L', h2, h3⟩ := collect_from h s' hs'
      exact ops_out hO h2 s' h3 i (guard_out (fun _ _ hh => step_out hO hh) h1 s1 hs1 i hi)
    · cases h

theorem firstPure_spec {T : Tab} {ops : Array Oper} {listed : Array Bool} {s : St} : ∀ {l : List Nat} {i : Nat} {o : Oper} {L : List St}, firstPure T ops listed s l = some (i, o, L) →
    i ∈ l ∧ ops[i]? = some o ∧ guardStep (pureStep T o) ops o s = some L ∧ Region.free .any ops listed i = true
  | [], _, _, _, h => by simp [firstPure] at h
  | j :: r, i, o, L, h => by
    unfold firstPure at h
    split at h
    · rename_i oj hoj
      split at h
      · rename_i L1 h1 h2
        have h3 := Option.some.inj h
        obtain ⟨rfl, h4⟩ := Prod.mk.inj h3
        obtain ⟨rfl, rfl⟩ := Prod.mk.inj h4
        exact ⟨List.mem_cons_self, hoj, h1, h2⟩
      · obtain ⟨h1, h2⟩ := firstPure_spec h
        exact ⟨List.mem_cons_of_mem _ h1, h2⟩
    · obtain ⟨h1, h2⟩ := firstPure_spec h
      exact ⟨List.mem_cons_of_mem _ h1, h2⟩

theorem any_out {T : Tab} {H : Handler} (hO : HandOut H) {ops : Array Oper} : ∀ {f : Nat} {listed : Array Bool} {s : St} {L : List St}, sxAny T H ops f listed s = some L → ∀ s' ∈ L, ∀ i ∈ s.out, i ∈ s'.out
  | 0, listed, s, L, h, s', hs', i, hi => by
    unfold sxAny at h
    split at h
    · rw [← Option.some.inj h] at hs'; rw [List.mem_singleton.1 hs']; exact hi
    · cases h
  | f + 1, listed, s, L, h, s', hs', i, hi => by
    unfold sxAny at h
    split at h
    · rw [← Option.some.inj h] at hs'; rw [List.mem_singleton.1 hs']; exact hi
    · split at h
      · rename_i j o L1 h1
        obtain ⟨-, -, h2, -⟩ := firstPure_spec h1
        obtain ⟨s1, hs1, L', h3, h4⟩ := collect_from h s' hs'
        exact any_out hO h3 s' h4 i (guard_out (fun _ _ hh => pure_out hh) h2 s1 hs1 i hi)
      · obtain ⟨j, hj, L', h3, h4⟩ := collect_from h s' hs'
        split at h3
        · split at h3
          · rename_i L1 h1
            obtain ⟨s1, hs1, L'', h5, h6⟩ := collect_from h3 s' h4
            exact any_out hO h5 s' h6 i (guard_out (fun _ _ hh => step_out hO hh) h1 s1 hs1 i hi)
          · cases h3
        · cases h3

theorem still_out {T : Tab} {mem0 : List (Nat × List (Bool × Ref))} {o : Oper} {s : St} {L : List St} (h : stillStep T mem0 o s = some L) : ∀ s' ∈ L, ∀ i ∈ s.out, i ∈ s'.out := by
  intro s' hs' i hi
  unfold stillStep at h
  split at h
  · repeat' split at h
    all_goals first
      | (cases h; done)
      | (rw [put1_outs h s' hs']; exact hi)
  · exact pure_out h s' hs' i hi

theorem firstStill_spec {T : Tab} {mem0 : List (Nat × List (Bool × Ref))} {ops : Array Oper} {listed : Array Bool} {s : St} : ∀ {l : List Nat} {i : Nat} {o : Oper} {L : List St}, firstStill T mem0 ops listed s l = some (i, o, L) →
    i ∈ l ∧ ops[i]? = some o ∧ guardStep (stillStep T mem0 o) ops o s = some L ∧ Region.free .any ops listed i = true
  | [], _, _, _, h => by simp [firstStill] at h
  | j :: r, i, o, L, h => by
    unfold firstStill at h
    split at h
    · rename_i oj hoj
      split at h
      · rename_i L1 h1 h2
        have h3 := Option.some.inj h
        obtain ⟨rfl, h4⟩ := Prod.mk.inj h3
        obtain ⟨rfl, rfl⟩ := Prod.mk.inj h4
        exact ⟨List.mem_cons_self, hoj, h1, h2⟩
      · obtain ⟨h1, h2⟩ := firstStill_spec h
        exact ⟨List.mem_cons_of_mem _ h1, h2⟩
    · obtain ⟨h1, h2⟩ := firstStill_spec h
      exact ⟨List.mem_cons_of_mem _ h1, h2⟩

theorem sxStill_out {T : Tab} {H : Handler} (hO : HandOut H) {mem0 : List (Nat × List (Bool × Ref))} {ops : Array Oper} : ∀ {f : Nat} {listed : Array Bool} {s : St} {L : List St}, sxStill T H mem0 ops f listed s = some L → ∀ s' ∈ L, ∀ i ∈ s.out, i ∈ s'.out
  | 0, listed, s, L, h, s', hs', i, hi => by
    unfold sxStill at h
    split at h
    · rw [← Option.some.inj h] at hs'; rw [List.mem_singleton.1 hs']; exact hi
    · cases h
  | f + 1, listed, s, L, h, s', hs', i, hi => by
    unfold sxStill at h
    split at h
    · rw [← Option.some.inj h] at hs'; rw [List.mem_singleton.1 hs']; exact hi
    · split at h
      · rename_i j o L1 h1
        obtain ⟨-, -, h2, -⟩ := firstStill_spec h1
        obtain ⟨s1, hs1, L', h3, h4⟩ := collect_from h s' hs'
        exact sxStill_out hO h3 s' h4 i (guard_out (fun _ _ hh => still_out hh) h2 s1 hs1 i hi)
      · obtain ⟨j, hj, L', h3, h4⟩ := collect_from h s' hs'
        split at h3
        · split at h3
          · rename_i L1 h1
            split at h3
            · obtain ⟨s1, hs1, L'', h5, h6⟩ := collect_from h3 s' h4
              exact sxStill_out hO h5 s' h6 i (guard_out (fun _ _ hh => step_out hO hh) h1 s1 hs1 i hi)
            · cases h3
          · cases h3
        · cases h3

theorem drawn_out {T : Tab} {H : Handler} (hO : HandOut H) {ops : Array Oper} {s : St} {L : List St} (h : sxDrawn T H ops s = some L) : ∀ s' ∈ L, ∀ i ∈ s.out, i ∈ s'.out := by
  unfold sxDrawn at h
  split at h
  · rename_i L1 h1
    rw [← Option.some.inj h]
    exact sxStill_out hO h1
  · exact any_out hO h

theorem code_out {T : Tab} {H : Handler} (hO : HandOut H) : ∀ {c : Code} {s : St} {L : List (Bool × St)}, sxCode T H c s = some L → ∀ x ∈ L, ∀ i ∈ s.out, i ∈ x.2.out := by
  intro c
  induction c with
  | skip => intro s L h x hx i hi; rw [← Option.some.inj h] at hx; rw [List.mem_singleton.1 hx]; exact hi
  | ret => intro s L h x hx i hi; rw [← Option.some.inj h] at hx; rw [List.mem_singleton.1 hx]; exact hi
  | seq a b iha ihb =>
    intro s L h x hx i hi
    unfold sxCode at h
    split at h
    · rename_i L1 h1
      obtain ⟨y, hy, L', h2, h3⟩ := collect_from h x hx
      have hi' := iha h1 y hy i hi
      split at h2
      · rw [← Option.some.inj h2] at h3; rw [List.mem_singleton.1 h3]; exact hi'
      · exact ihb h2 x h3 i hi'
    · cases h
  | cond c a b iha ihb =>
    intro s L h x hx i hi
    unfold sxCode at h
    split at h
    · obtain ⟨y, hy, L', h2, h3⟩ := collect_from h x hx
      have hi' : i ∈ y.2.out := by rw [split_outs y hy]; exact hi
      split at h2
      · exact iha h2 x h3 i hi'
      · exact ihb h2 x h3 i hi'
    · cases h
  | region id ops draw =>
    intro s L h x hx i hi
    cases draw with
    | false =>
      unfold sxCode at h
      split at h
      · rename_i L1 h1
        rw [← Option.some.inj h] at hx
        obtain ⟨y, hy, rfl⟩ := List.mem_map.1 hx
        exact ops_out hO h1 y hy i hi
      · cases h
    | true =>
      unfold sxCode at h
      split at h
      · rename_i L1 _ h1
        rw [← Option.some.inj h] at hx
        obtain ⟨y, hy, rfl⟩ := List.mem_map.1 hx
        exact drawn_out hO h1 y (mem_dd hy) i hi
      · cases h
  | _ => intro s L h; simp [sxCode] at h

theorem runFun_out (T : Tab) : ∀ d, HandOut (runFun T d)
  | 0 => fun fn args s L h => by simp [runFun] at h
  | d + 1 => fun fn args s L h x hx i hi => by
    unfold runFun at h
    split at h
    · cases h
    · split at h
      · cases h
      · split at h
        · cases h
        · rename_i L1 h1
          split at h
          · rename_i L2 h2
            rw [← Option.some.inj h] at hx
            obtain ⟨y, hy, L', h3, h4⟩ := collect_from h2 x (mem_dd hx)
            have hi' := code_out (runFun_out T d) h1 y hy i hi
            split at h3
            · split at h3
              · rw [← Option.some.inj h3] at h4
                rw [List.mem_singleton.1 h4]; exact hi'
              · cases h3
            · cases h3
          · cases h

/-! ### Soundness -/

section
variable {C : Ctx} {T : Tab} {H : Handler}

theorem guard_sound {f : St → Option (List St)} {ops : Array Oper} {o : Oper} {s : St} {bl : List Nat} {a : Act} {L : List St} (h : guardStep f ops o s = some L) (M : MF C s bl a) (F : FA C.ρ s) :
    (Region.wanted o (yielded ops a.tmps) = true ∧ ∃ pc L0, f { s with pc := pc } = some L0 ∧ (∀ y ∈ L0, y ∈ L) ∧ FA C.ρ { s with pc := pc }) ∨
    (Region.wanted o (yielded ops a.tmps) = false ∧ ∃ pc L0, St.put1 { s with pc := pc } o.dst none = some L0 ∧ (∀ y ∈ L0, y ∈ L) ∧ FA C.ρ { s with pc := pc }) := by
  unfold guardStep at h
  split at h
  · rename_i hg
    exact .inl ⟨by simp [Region.wanted, hg], s.pc, L, h, fun y hy => hy, F⟩
  · rename_i j want hg
    split at h
    · rename_i oj hoj
      split at h
      · rename_i d hd
        split at h
        · rename_i neg r hr
          obtain ⟨h1, _⟩ := M.tm d _ hr
          have hy : yielded ops a.tmps j = some (truth C.ρ neg r) := by
            unfold yielded
            simp only [hoj, Option.bind_some, hd, h1, AV.conc]
          obtain ⟨pc, hmem, F'⟩ := split_ok F neg r
          obtain ⟨q, qs, hq, hsub⟩ := collect_mem h _ hmem
          have hw : Region.wanted o (yielded ops a.tmps) = (some (truth C.ρ neg r) == some want) := by
            simp only [Region.wanted, hg, hy]
          dsimp only at hq
          cases ht : truth C.ρ neg r <;> cases want <;> rw [ht] at hq hw
          · exact .inl ⟨by rw [hw]; rfl, pc, _, hq, hsub, F'⟩
          · exact .inr ⟨by rw [hw]; rfl, pc, _, hq, hsub, F'⟩
          · exact .inr ⟨by rw [hw]; rfl, pc, _, hq, hsub, F'⟩
          · exact .inl ⟨by rw [hw]; rfl, pc, _, hq, hsub, F'⟩
        · cases h
      · cases h
    · cases h

theorem wp_mono' {P : Program} {o : Oper} {a : Act} {w : World} {K K' : Act → World → Prop} {Q : Exit → Act → World → Prop} (hk : ∀ a w, K a w → K' a w) (h : o.wp P a w K (fun _ _ _ => False)) : o.wp P a w K' Q := by
  unfold Oper.wp at *
  generalize (execOp a.eval o).run P w = r at *
  cases r with
  | ok n w' =>
    cases n <;> simp only [Oper.upon] at h ⊢
    case value => exact hk _ _ h
    case skip => exact hk _ _ h
    case defer => exact hk _ _ h
    case enter =>
      refine h.mono fun e w'' he => ?_
      cases e with
      | returned v => exact hk _ _ he
      | panicked c => exact he.elim
      | outgrown => obtain ⟨_, _, hf⟩ := he; exact hf.elim
    case row => exact Rows.mono h fun v w'' hv => hk _ _ hv
  | halt x w' => cases x <;> simp only [Oper.upon] at h

theorem rel_pass {L1 L : List St} {bl t : List Nat} {a : Act} {w : World} (h : Rel C L1 (bl ++ t) a w) (hs : ∀ y ∈ L1, y ∈ L) : Rel C L bl a w := by
  obtain ⟨s, h1, t', h2⟩ := h
  exact ⟨s, hs s h1, t ++ t', by rw [← List.append_assoc]; exact h2⟩

theorem rel_put_none {s : St} {bl : List Nat} {a : Act} {w : World} {L : List St} (M : MF C s bl a) (W : MM C s bl w) (F : FA C.ρ s) {dst : Option Tmp} (v : Value) (h : s.put1 dst none = some L) : Rel C L bl (a.put dst v) w :=
  rel_put M W F (fun _ hx => by cases hx) h

theorem ops_sound (hT : TabOk C.P T) (hO : OrcsOk C.P T) (hH : HandOk C H) (hB : HandBody H) (hU : HandOut H) {ops : Array Oper} {Q : Exit → Act → World → Prop} :
    ∀ {l : List Oper} {s : St} {bl : List Nat} {a : Act} {w : World} {L : List St}, sxOps T H ops l s = some L → (∀ s' ∈ L, ∀ i ∈ s'.out, i.sat C.ρ) → MF C s bl a → MM C s bl w → FA C.ρ s →
      (∀ a' w', Rel C L bl a' w' → Q .normal a' w') → wpList C.P ops Q l a w
  | [], s, bl, a, w, L, h, _, M, W, F, hQ => by
    have := Option.some.inj h
    subst this
    exact wpList_nil (hQ _ _ ⟨s, List.mem_singleton.2 rfl, [], by rw [List.append_nil]; exact M, by rw [List.append_nil]; exact W, F⟩)
  | o :: r, s, bl, a, w, L, h, hsat, M, W, F, hQ => by
    unfold sxOps at h
    split at h
    · rename_i L1 h1
      have hnext : ∀ s1 ∈ L1, ∃ x xs, sxOps T H ops r s1 = some (x :: xs) ∧ (∀ y ∈ x :: xs, y ∈ L) := fun s1 hs1 => collect_mem h s1 hs1
      have hsat1 : ∀ s1 ∈ L1, ∀ i ∈ s1.out, i.sat C.ρ := fun s1 hs1 i hi => by
        obtain ⟨x, xs, h2, h3⟩ := hnext s1 hs1
        exact hsat x (h3 x List.mem_cons_self) i (ops_out hU h2 x List.mem_cons_self i hi)
      have hgo : ∀ a' w', Rel C L1 bl a' w' → wpList C.P ops Q r a' w' := fun a' w' ⟨s1, hs1, t, M1, W1, F1⟩ => by
        obtain ⟨x, xs, h2, h3⟩ := hnext s1 hs1
        exact ops_sound hT hO hH hB hU h2 (fun s' hs' => hsat s' (h3 s' hs')) M1 W1 F1 fun a'' w'' hr => hQ _ _ (rel_pass hr h3)
      refine wpList_step fun K hK => ?_
      rcases guard_sound h1 M F with ⟨hw, pc, L0, h2, h3, F'⟩ | ⟨hw, pc, L0, h2, h3, F'⟩
      · rw [if_pos hw]
        refine wp_mono' (K := Rel C L0 bl) (fun a' w' hh => hK _ _ (hgo _ _ ?_)) (step_sound hT hO hH hB h2 (fun s' hs' => hsat1 s' (h3 s' hs')) (M.emit _ _ _ _) (W.same rfl) F')
        obtain ⟨s1, hs1, t, hr⟩ := hh
        exact ⟨s1, h3 s1 hs1, t, hr⟩
      · rw [if_neg (by rw [hw]; decide)]
        refine hK _ _ (hgo _ _ ?_)
        obtain ⟨s1, hs1, t, hr⟩ := rel_put_none (M.emit s.n s.cb pc s.out) (W.same (s' := { s with pc := pc }) rfl) F' undef h2
        exact ⟨s1, h3 s1 hs1, t, hr⟩
    · cases h

/-- Only the plain way out. -/
def onlyN (K : Act → World → Prop) : Exit → Act → World → Prop
  | .normal, a, w => K a w
  | _, _, _ => False

theorem any_sound (hT : TabOk C.P T) (hO : OrcsOk C.P T) (hH : HandOk C H) (hB : HandBody H) (hU : HandOut H) {ops : Array Oper} (hsel : Region.noSelect ops = true) {K : Act → World → Prop} :
    ∀ {f : Nat} {listed : Array Bool} {s : St} {bl : List Nat} {a : Act} {w : World} {L : List St}, sxAny T H ops f listed s = some L → (∀ s' ∈ L, ∀ i ∈ s'.out, i.sat C.ρ) → MF C s bl a → MM C s bl w → FA C.ρ s →
      (∀ a' w', Rel C L bl a' w' → K a' w') → wpAny C.P .any ops (onlyN K) f listed a w
  | 0, listed, s, bl, a, w, L, h, _, M, W, F, hK => by
    unfold sxAny at h
    split at h
    · rename_i hr
      have := Option.some.inj h
      subst this
      exact ⟨hr, hK _ _ ⟨s, List.mem_singleton.2 rfl, [], by rw [List.append_nil]; exact M, by rw [List.append_nil]; exact W, F⟩⟩
    · cases h
  | f + 1, listed, s, bl, a, w, L, h, hsat, M, W, F, hK => by
    unfold sxAny at h
    split at h
    · rename_i hr
      have := Option.some.inj h
      subst this
      exact wpAny_done hr (hK _ _ ⟨s, List.mem_singleton.2 rfl, [], by rw [List.append_nil]; exact M, by rw [List.append_nil]; exact W, F⟩) _
    · rename_i r rs hready
      split at h
      · -- one that does not look at the world
        rename_i i o L1 h1
        obtain ⟨hi, hoi, h2, hfree⟩ := firstPure_spec h1
        have hnext : ∀ s1 ∈ L1, ∃ x xs, sxAny T H ops f (listed.setIfInBounds i true) s1 = some (x :: xs) ∧ (∀ y ∈ x :: xs, y ∈ L) := fun s1 hs1 => collect_mem h s1 hs1
        have hsat1 : ∀ s1 ∈ L1, ∀ i ∈ s1.out, i.sat C.ρ := fun s1 hs1 i hi => by
          obtain ⟨x, xs, h2, h3⟩ := hnext s1 hs1
          exact hsat x (h3 x List.mem_cons_self) i (any_out hU h2 x List.mem_cons_self i hi)
        have hgo : ∀ a' w', Rel C L1 bl a' w' → wpAny C.P .any ops (onlyN K) f (listed.setIfInBounds i true) a' w' := fun a' w' ⟨s1, hs1, t, M1, W1, F1⟩ => by
          obtain ⟨x, xs, h2, h3⟩ := hnext s1 hs1
          exact any_sound hT hO hH hB hU hsel h2 (fun s' hs' => hsat s' (h3 s' hs')) M1 W1 F1 fun a'' w'' hr => hK _ _ (rel_pass hr h3)
        have hcon : (Region.ready .any ops listed).contains i = true := by rw [hready]; simpa using hi
        rcases guard_sound h2 M F with ⟨hw, pc, L0, h3, h4, F'⟩ | ⟨hw, pc, L0, h3, h4, F'⟩
        · obtain ⟨v, s1, hs1, hrun, M1, F1, hmem⟩ := pure_sound hT h3 (fun s' hs' => hsat1 s' (h4 s' hs')) (M.emit s.n s.cb pc s.out) F'
          refine wpAny_take hoi hsel hfree hcon (fun _ _ _ hf => hf.elim) (.inl ⟨hw, hrun⟩) (hgo _ _ ⟨s1, h4 s1 hs1, [], ?_, ?_, F1⟩)
          · rw [List.append_nil]; exact M1
          · rw [List.append_nil]; exact W.same hmem
        · refine wpAny_take hoi hsel hfree hcon (fun _ _ _ hf => hf.elim) (.inr ⟨hw, rfl⟩) (hgo _ _ ?_)
          obtain ⟨s1, hs1, t, hr⟩ := rel_put_none (M.emit s.n s.cb pc s.out) (W.same (s' := { s with pc := pc }) rfl) F' undef h3
          exact ⟨s1, h4 s1 hs1, t, hr⟩
      · -- whichever comes up
        refine wpAny_all hready (by simp) fun i hi => ?_
        obtain ⟨y, ys, h1, hsubL⟩ := collect_mem h i hi
        split at h1
        · rename_i o hoi
          split at h1
          · rename_i L1 h2
            have hnext : ∀ s1 ∈ L1, ∃ x xs, sxAny T H ops f (listed.setIfInBounds i true) s1 = some (x :: xs) ∧ (∀ z ∈ x :: xs, z ∈ L) := fun s1 hs1 => by
              obtain ⟨x, xs, h3, h4⟩ := collect_mem h1 s1 hs1
              exact ⟨x, xs, h3, fun z hz => hsubL z (h4 z hz)⟩
            have hsat1 : ∀ s1 ∈ L1, ∀ i ∈ s1.out, i.sat C.ρ := fun s1 hs1 i hi => by
              obtain ⟨x, xs, h2, h3⟩ := hnext s1 hs1
              exact hsat x (h3 x List.mem_cons_self) i (any_out hU h2 x List.mem_cons_self i hi)
            have hgo : ∀ a' w', Rel C L1 bl a' w' → wpAny C.P .any ops (onlyN K) f (listed.setIfInBounds i true) a' w' := fun a' w' ⟨s1, hs1, t, M1, W1, F1⟩ => by
              obtain ⟨x, xs, h2, h3⟩ := hnext s1 hs1
              exact any_sound hT hO hH hB hU hsel h2 (fun s' hs' => hsat s' (h3 s' hs')) M1 W1 F1 fun a'' w'' hr => hK _ _ (rel_pass hr h3)
            unfold wpOp
            simp only [hoi]
            rcases guard_sound h2 M F with ⟨hw, pc, L0, h3, h4, F'⟩ | ⟨hw, pc, L0, h3, h4, F'⟩
            · rw [if_pos hw]
              refine .inl (wp_mono' (K := Rel C L0 bl) (fun a' w' hh => hgo _ _ ?_) (step_sound hT hO hH hB h3 (fun s' hs' => hsat1 s' (h4 s' hs')) (M.emit _ _ _ _) (W.same rfl) F'))
              obtain ⟨s1, hs1, t, hr⟩ := hh
              exact ⟨s1, h4 s1 hs1, t, hr⟩
            · rw [if_neg (by rw [hw]; decide)]
              refine hgo _ _ ?_
              obtain ⟨s1, hs1, t, hr⟩ := rel_put_none (M.emit s.n s.cb pc s.out) (W.same (s' := { s with pc := pc }) rfl) F' undef h3
              exact ⟨s1, h4 s1 hs1, t, hr⟩
          · cases h1
        · cases h1

/-- The blocks that were known first hold what they held. -/
def Kept (C : Ctx) (mem0 : List (Nat × List (Bool × Ref))) (bl0 : List Nat) (w : World) : Prop :=
  ∀ k b, mem0[k]? = some b → w.heap[blk bl0 k]? = some (.cells (b.2.map (sv C.ρ)).toArray b.1 (0, 0)) ∧ ∀ x ∈ b.2, sOk C.ρ x

theorem kept_of {mem0 : List (Nat × List (Bool × Ref))} {bl0 t : List Nat} {s : St} {w : World} (hl : bl0.length = mem0.length) (hm : s.mem.take mem0.length = mem0) (W : MM C s (bl0 ++ t) w) : Kept C mem0 bl0 w := by
  intro k b hk
  have hlt : k < mem0.length := (List.getElem?_eq_some_iff.1 hk).1
  have h1 : s.mem[k]? = some b := by
    rw [← hm, List.getElem?_take, if_pos hlt] at hk; exact hk
  have h2 := W.mem k b h1
  have h3 : blk (bl0 ++ t) k = blk bl0 k := by simp [blk, List.getD_eq_getElem?_getD, List.getElem?_append_left (show k < bl0.length by omega)]
  rw [h3] at h2
  exact h2

/-- A still operation gives its value in every world that has kept the blocks. -/
theorem still_sound (hT : TabOk C.P T) {mem0 : List (Nat × List (Bool × Ref))} {bl0 t : List Nat} {s : St} {a : Act} {o : Oper} {L : List St} (hl : bl0.length = mem0.length) (h : stillStep T mem0 o s = some L) (hsat : ∀ s' ∈ L, ∀ i ∈ s'.out, i.sat C.ρ)
    (hok : ∀ (k : Nat) (b : Nat × List (Bool × Ref)), mem0[k]? = some b → ∀ x ∈ b.2, sOk C.ρ x) (M : MF C s (bl0 ++ t) a) (F : FA C.ρ s) :
    ∃ v s', s' ∈ L ∧ (∀ w, Kept C mem0 bl0 w → (execOp a.eval o).run C.P w = .ok (.value v) w) ∧ MF C s' (bl0 ++ t) (a.put o.dst v) ∧ FA C.ρ s' ∧ s'.mem = s.mem := by
  unfold stillStep at h
  split at h
  · rename_i ty x ho
    split at h
    · rename_i k off hx
      obtain ⟨he, _⟩ := M.eval hx
      split at h
      · rename_i b hb
        have hlt : k < mem0.length := (List.getElem?_eq_some_iff.1 hb).1
        have hbk : blk (bl0 ++ t) k = blk bl0 k := by simp [blk, List.getD_eq_getElem?_getD, List.getElem?_append_left (show k < bl0.length by omega)]
        split at h
        · rename_i hword
          split at h
          · rename_i y hy
            obtain ⟨s', h1, h2, h3, h4⟩ := put1_ok M F (av := AV.ofS y) (ok_ofS (hok k b hb y (List.mem_of_getElem? hy))) h
            refine ⟨_, s', h1, fun w hw => ?_, h2, h3, h4⟩
            obtain ⟨⟨kk, hu⟩, hsz⟩ := ok_word hT hword
            have hc : w.cell? ⟨blk bl0 k, off, none⟩ = some ((AV.ofS y).conc C.ρ (blk (bl0 ++ t))) := by
              rw [AV.conc_ofS]; simp [World.cell?, (hw k b hb).1, hy]
            simp [execOp, ho, he, AV.conc, hbk, Instr.loadAt, Instr.sureAddr, loadVar, isAgg_word hu]
            rw [hc]
            rfl
          · cases h
        · split at h
          · rename_i n hn _
            split at h
            · rename_i hlen
              have hlen := Nat.eq_of_beq_eq_true hlen
              obtain ⟨e, h1, -, -, h3, -⟩ := hT.arr ty n.1 n.2 (look_mem hn)
              obtain ⟨s', g1, g2, g3, g4⟩ := put1_ok M F (av := .agg b.2) (hok k b hb) h
              refine ⟨_, s', g1, fun w hw => ?_, g2, g3, g4⟩
              have := run_loadVar_row w (blk bl0 k) b.1 ty (b.2.map (sv C.ρ)).toArray (0, 0) (.array n.1 e) (hw k b hb).1 h1 rfl (by rw [size_of_both h3]; simp [hlen])
              simp only [execOp, ho, he, AV.conc, hbk, Instr.loadAt, Instr.sureAddr, Sem.run_bind, Sem.run_pure, Result.andThen_ok, this]
            · cases h
          · cases h
      · cases h
    · cases h
  · obtain ⟨v, s1, hs1, hrun, M1, F1, hmem⟩ := pure_sound hT h hsat M F
    exact ⟨v, s1, hs1, fun w _ => hrun w, M1, F1, hmem⟩

theorem still_drawn (hT : TabOk C.P T) (hO : OrcsOk C.P T) (hH : HandOk C H) (hB : HandBody H) (hU : HandOut H) {ops : Array Oper} (hsel : Region.noSelect ops = true) {K : Act → World → Prop} {mem0 : List (Nat × List (Bool × Ref))} {bl0 : List Nat} (hl : bl0.length = mem0.length) :
    ∀ {f : Nat} {listed : Array Bool} {s : St} {t0 : List Nat} {a : Act} {w : World} {L : List St}, sxStill T H mem0 ops f listed s = some L → (∀ s' ∈ L, ∀ i ∈ s'.out, i.sat C.ρ) → s.mem.take mem0.length = mem0 → MF C s (bl0 ++ t0) a → MM C s (bl0 ++ t0) w → FA C.ρ s →
      (∀ a' w', Rel C L (bl0 ++ t0) a' w' → K a' w') → wpAnyH C.P .any ops (onlyN K) (Kept C mem0 bl0) f listed a w
  | 0, listed, s, t0, a, w, L, h, _, _, M, W, F, hK => by
    unfold sxStill at h
    split at h
    · rename_i hr
      have := Option.some.inj h
      subst this
      exact ⟨hr, hK _ _ ⟨s, List.mem_singleton.2 rfl, [], by rw [List.append_nil]; exact M, by rw [List.append_nil]; exact W, F⟩⟩
    · cases h
  | f + 1, listed, s, t0, a, w, L, h, hsat, hm0, M, W, F, hK => by
    have hS := kept_of hl hm0 W
    unfold sxStill at h
    split at h
    · rename_i hr
      have := Option.some.inj h
      subst this
      exact wpAnyH_done hr (hK _ _ ⟨s, List.mem_singleton.2 rfl, [], by rw [List.append_nil]; exact M, by rw [List.append_nil]; exact W, F⟩) _
    · rename_i r rs hready
      split at h
      · rename_i i o L1 h1
        obtain ⟨hi, hoi, h2, hfree⟩ := firstStill_spec h1
        have hnext : ∀ s1 ∈ L1, ∃ x xs, sxStill T H mem0 ops f (listed.setIfInBounds i true) s1 = some (x :: xs) ∧ (∀ y ∈ x :: xs, y ∈ L) := fun s1 hs1 => collect_mem h s1 hs1
        have hsat1 : ∀ s1 ∈ L1, ∀ i ∈ s1.out, i.sat C.ρ := fun s1 hs1 i hi => by
          obtain ⟨x, xs, h2, h3⟩ := hnext s1 hs1
          exact hsat x (h3 x List.mem_cons_self) i (sxStill_out hU h2 x List.mem_cons_self i hi)
        have hgo : ∀ a' s1, s1 ∈ L1 → s1.mem = s.mem → MF C s1 (bl0 ++ t0) a' → FA C.ρ s1 → wpAnyH C.P .any ops (onlyN K) (Kept C mem0 bl0) f (listed.setIfInBounds i true) a' w := fun a' s1 hs1 hmm M1 F1 => by
          obtain ⟨x, xs, h2, h3⟩ := hnext s1 hs1
          exact still_drawn hT hO hH hB hU hsel hl h2 (fun s' hs' => hsat s' (h3 s' hs')) (by rw [hmm]; exact hm0) M1 (W.same hmm) F1 fun a'' w'' ⟨y, hy, hr⟩ => hK _ _ ⟨y, h3 y hy, hr⟩
        have hcon : (Region.ready .any ops listed).contains i = true := by rw [hready]; simpa using hi
        rcases guard_sound h2 M F with ⟨hw, pc, L0, h3, h4, F'⟩ | ⟨hw, pc, L0, h3, h4, F'⟩
        · obtain ⟨v, s1, hs1, hrun, M1, F1, hmem⟩ := still_sound hT hl h3 (fun s' hs' => hsat1 s' (h4 s' hs')) (fun k b hb => (hS k b hb).2) (M.emit s.n s.cb pc s.out) F'
          exact wpAnyH_take hoi hsel hfree hcon (fun _ _ _ hf => hf.elim) (.inl ⟨hw, hrun⟩) hS (hgo _ s1 (h4 s1 hs1) hmem M1 F1)
        · obtain ⟨s1, g1, rfl⟩ := put1_some h3
          have g2 := put_same g1
          exact wpAnyH_take hoi hsel hfree hcon (fun _ _ _ hf => hf.elim) (.inr ⟨hw, rfl⟩) hS (hgo _ s1 (h4 s1 List.mem_cons_self) g2.2.1 ((M.emit s.n s.cb pc s.out).put (fun _ hx => by cases hx) g1) (F'.put g1))
      · refine wpAnyH_all hready (by simp) fun i hi => ?_
        obtain ⟨y, ys, h1, hsubL⟩ := collect_mem h i hi
        split at h1
        · rename_i o hoi
          split at h1
          · rename_i L1 h2
            split at h1
            · rename_i hkeep
              have hkeep : ∀ s1 ∈ L1, s1.mem.take mem0.length = mem0 := fun s1 hs1 => of_decide_eq_true (List.all_eq_true.1 hkeep s1 hs1)
              have hnext : ∀ s1 ∈ L1, ∃ x xs, sxStill T H mem0 ops f (listed.setIfInBounds i true) s1 = some (x :: xs) ∧ (∀ z ∈ x :: xs, z ∈ L) := fun s1 hs1 => by
                obtain ⟨x, xs, h3, h4⟩ := collect_mem h1 s1 hs1
                exact ⟨x, xs, h3, fun z hz => hsubL z (h4 z hz)⟩
              have hsat1 : ∀ s1 ∈ L1, ∀ i ∈ s1.out, i.sat C.ρ := fun s1 hs1 i hi => by
                obtain ⟨x, xs, h2, h3⟩ := hnext s1 hs1
                exact hsat x (h3 x List.mem_cons_self) i (sxStill_out hU h2 x List.mem_cons_self i hi)
              have hgo : ∀ a' w', Rel C L1 (bl0 ++ t0) a' w' → Kept C mem0 bl0 w' ∧ wpAnyH C.P .any ops (onlyN K) (Kept C mem0 bl0) f (listed.setIfInBounds i true) a' w' := fun a' w' ⟨s1, hs1, t, M1, W1, F1⟩ => by
                obtain ⟨x, xs, h2, h3⟩ := hnext s1 hs1
                rw [List.append_assoc] at M1 W1
                refine ⟨kept_of hl (hkeep s1 hs1) W1, still_drawn hT hO hH hB hU hsel hl h2 (fun s' hs' => hsat s' (h3 s' hs')) (hkeep s1 hs1) M1 W1 F1 fun a'' w'' hr => hK _ _ ?_⟩
                rw [← List.append_assoc] at hr
                exact rel_pass hr h3
              unfold wpOp
              simp only [hoi]
              rcases guard_sound h2 M F with ⟨hw, pc, L0, h3, h4, F'⟩ | ⟨hw, pc, L0, h3, h4, F'⟩
              · rw [if_pos hw]
                refine .inl (wp_mono' (K := Rel C L0 (bl0 ++ t0)) (fun a' w' hh => hgo _ _ ?_) (step_sound hT hO hH hB h3 (fun s' hs' => hsat1 s' (h4 s' hs')) (M.emit _ _ _ _) (W.same rfl) F'))
                obtain ⟨s1, hs1, t, hr⟩ := hh
                exact ⟨s1, h4 s1 hs1, t, hr⟩
              · rw [if_neg (by rw [hw]; decide)]
                refine hgo _ _ ?_
                obtain ⟨s1, hs1, t, hr⟩ := rel_put_none (M.emit s.n s.cb pc s.out) (W.same (s' := { s with pc := pc }) rfl) F' undef h3
                exact ⟨s1, h4 s1 hs1, t, hr⟩
            · cases h1
          · cases h1
        · cases h1

theorem drawn_sound (hT : TabOk C.P T) (hO : OrcsOk C.P T) (hH : HandOk C H) (hB : HandBody H) (hU : HandOut H) {ops : Array Oper} (hsel : Region.noSelect ops = true) {K : Act → World → Prop} {s : St} {bl : List Nat} {a : Act} {w : World} {L : List St}
    (h : sxDrawn T H ops s = some L) (hsat : ∀ s' ∈ L, ∀ i ∈ s'.out, i.sat C.ρ) (M : MF C s bl a) (W : MM C s bl w) (F : FA C.ρ s) (hK : ∀ a' w', Rel C L bl a' w' → K a' w') : wpAny C.P .any ops (onlyN K) ops.size (Array.replicate ops.size false) a w := by
  unfold sxDrawn at h
  split at h
  · rename_i L1 h1
    have := Option.some.inj h
    subst this
    refine wpAny_of_held (S := Kept C s.mem bl) _ _ _ _ (still_drawn (t0 := []) hT hO hH hB hU hsel W.len h1 hsat (by simp) (by rw [List.append_nil]; exact M) (by rw [List.append_nil]; exact W) F fun a' w' hr => hK _ _ ?_)
    rw [List.append_nil] at hr
    exact hr
  · exact any_sound hT hO hH hB hU hsel h hsat M W F hK

theorem MM.drewn {s : St} {bl : List Nat} {w : World} (W : MM C s bl w) : MM C s bl { w with drawn := w.drawn + 1 } := W.keep (Keeps.drew w)

/-- What the executor says of a text is so. -/
theorem code_sound (hT : TabOk C.P T) (hO : OrcsOk C.P T) (hH : HandOk C H) (hB : HandBody H) (hU : HandOut H) (hm : C.P.follows .mixedOrders = true) :
    ∀ {c : Code} {s : St} {bl : List Nat} {a : Act} {w : World} {L : List (Bool × St)} {Q : Exit → Act → World → Prop}, sxCode T H c s = some L → (∀ x ∈ L, ∀ i ∈ x.2.out, i.sat C.ρ) → MF C s bl a → MM C s bl w → FA C.ρ s →
      (∀ x ∈ L, ∀ t a' w', MF C x.2 (bl ++ t) a' → MM C x.2 (bl ++ t) w' → FA C.ρ x.2 → Q (match x.1 with | true => .ret | false => .normal) a' w') → c.wp C.P Q a w := by
  intro c
  induction c with
  | skip =>
    intro s bl a w L Q h _ M W F hQ
    have := Option.some.inj h
    subst this
    exact wp_skip (hQ _ List.mem_cons_self [] a w (by rw [List.append_nil]; exact M) (by rw [List.append_nil]; exact W) F)
  | ret =>
    intro s bl a w L Q h _ M W F hQ
    have := Option.some.inj h
    subst this
    exact wp_ret (hQ _ List.mem_cons_self [] a w (by rw [List.append_nil]; exact M) (by rw [List.append_nil]; exact W) F)
  | seq x y ihx ihy =>
    intro s bl a w L Q h hsat M W F hQ
    unfold sxCode at h
    split at h
    · rename_i L1 h1
      have hnext := collect_mem h
      refine wp_seq (ihx h1 (fun z hz i hi => ?_) M W F fun z hz t a' w' M' W' F' => ?_)
      · obtain ⟨q, qs, h2, h3⟩ := hnext z hz
        refine hsat q (h3 q List.mem_cons_self) i ?_
        split at h2
        · have := (List.cons.inj (Option.some.inj h2)).1; rw [← this]; exact hi
        · exact code_out hU h2 q List.mem_cons_self i hi
      · obtain ⟨q, qs, h2, h3⟩ := hnext z hz
        split at h2
        · rename_i hz1
          have e := (List.cons.inj (Option.some.inj h2)).1
          have := hQ q (h3 q List.mem_cons_self) t a' w'
          rw [← e] at this
          exact this M' W' F'
        · rename_i hz1
          exact ihy h2 (fun z hz => hsat z (h3 z hz)) M' W' F' fun z hz t' a'' w'' M'' W'' F'' => by
            rw [List.append_assoc] at M'' W''
            exact hQ z (h3 z hz) (t ++ t') a'' w'' M'' W'' F''
    · cases h
  | cond c x y ihx ihy =>
    intro s bl a w L Q h hsat M W F hQ
    unfold sxCode at h
    split at h
    · rename_i neg r hc
      obtain ⟨he, _⟩ := M.eval hc
      obtain ⟨pc, hmem, F'⟩ := split_ok F neg r
      obtain ⟨q, qs, h2, h3⟩ := collect_mem h _ hmem
      refine wp_cond (t := truth C.ρ neg r) he ?_
      dsimp only at h2
      cases ht : truth C.ρ neg r with
      | true =>
        rw [ht] at h2
        rw [if_pos rfl]
        exact ihx h2 (fun z hz => hsat z (h3 z hz)) (M.emit _ _ _ _) (W.same rfl) F' fun z hz => hQ z (h3 z hz)
      | false =>
        rw [ht] at h2
        rw [if_neg (by decide)]
        exact ihy h2 (fun z hz => hsat z (h3 z hz)) (M.emit _ _ _ _) (W.same rfl) F' fun z hz => hQ z (h3 z hz)
    · cases h
  | region id ops draw =>
    intro s bl a w L Q h hsat M W F hQ
    cases draw with
    | false =>
      unfold sxCode at h
      split at h
      · rename_i L1 h1
        have h2 := Option.some.inj h
        subst h2
        refine wp_region_list (ops_sound hT hO hH hB hU h1 (fun s' hs' => hsat _ (List.mem_map.2 ⟨s', hs', rfl⟩)) M W F fun a' w' ⟨s1, hs1, t, M1, W1, F1⟩ => ?_)
        exact hQ _ (List.mem_map.2 ⟨s1, hs1, rfl⟩) t a' w' M1 W1 F1
      · cases h
    | true =>
      unfold sxCode at h
      split at h
      · rename_i L1 hsel h1
        have h2 := Option.some.inj h
        subst h2
        refine Code.wp_mono (Q := onlyN (Rel C L1 bl)) (fun e a' w' hq => ?_) (wp_region_any hm (drawn_sound hT hO hH hB hU hsel h1 (fun s' hs' => hsat _ (List.mem_map.2 ⟨s', dd_mem hs', rfl⟩)) M W.drewn F fun _ _ hr => hr))
        cases e <;> first
          | exact hq.elim
          | (obtain ⟨s1, hs1, t, M1, W1, F1⟩ := hq
             exact hQ _ (List.mem_map.2 ⟨s1, dd_mem hs1, rfl⟩) t a' w' M1 W1 F1)
      · cases h
  | _ => intro s bl a w L Q h; simp [sxCode] at h

theorem params_get : ∀ (l : List AV) (k : Nat) (t : Tree) (j : Nat) (av : AV), (params k l t).get j = some av → (k ≤ j ∧ l[j - k]? = some av) ∨ t.get j = some av
  | [], k, t, j, av, h => .inr h
  | a :: r, k, t, j, av, h => by
    rcases params_get r (k + 1) _ j av h with ⟨h1, h2⟩ | h1
    · refine .inl ⟨by omega, ?_⟩
      rw [show j - k = (j - (k + 1)) + 1 by omega]
      simpa using h2
    · rcases Tree.get_set _ _ _ _ _ _ h1 with ⟨h2, h3⟩ | ⟨_, h3⟩
      · subst h2
        exact .inl ⟨Nat.le_refl _, by simpa using h3⟩
      · exact .inr h3

theorem entered {s : St} {bl : List Nat} {l : List AV} {n : Nat} (hl : l.length ≤ n) (hok : ∀ av ∈ l, av.ok C.ρ s.mem.length) :
    MF C { s with N := n, tm := params 0 l .leaf } bl { tmps := (l.map (AV.conc C.ρ (blk bl))).toArray ++ Array.replicate (n - (l.map (AV.conc C.ρ (blk bl))).toArray.size) undef, defers := [] } := by
  refine ⟨by simp; omega, rfl, fun t av h => ?_⟩
  rcases params_get l 0 .leaf t av h with ⟨_, h1⟩ | h1
  · rw [Nat.sub_zero] at h1
    have hlt : t < l.length := (List.getElem?_eq_some_iff.1 h1).1
    refine ⟨?_, hok av (List.mem_of_getElem? h1)⟩
    rw [Array.getElem?_append_left (by simpa using hlt)]
    simp [h1]
  · simp [Tree.get] at h1

/-- A function's results are read. -/
theorem res_sound (hT : TabOk C.P T) {s : St} {bl : List Nat} {a : Act} {w : World} (fn : Func) {r : Option AV} (h : resOf T s fn.results.toList = some r) (M : MF C s bl a) (W : MM C s bl w) :
    ∃ v, (results fn a.tmps).run C.P w = .ok v w ∧ ∀ av, r = some av → v = av.conc C.ρ (blk bl) ∧ av.ok C.ρ s.mem.length := by
  have hres : ∀ l, fn.results.toList = l → fn.results = l.toArray := fun l hl => by rw [← hl]
  unfold resOf at h
  split at h
  · rename_i hl
    refine ⟨.tuple #[], results_none (hres _ hl) _ _ _, fun av hav => ?_⟩
    have := Option.some.inj h
    subst this
    cases hav
  · rename_i t hl
    split at h
    · rename_i av hav
      obtain ⟨h1, h2⟩ := M.tm t av hav
      refine ⟨av.conc C.ρ (blk bl), ?_, fun av' hav' => ?_⟩
      · rw [results_tmp (hres _ hl)]
        simp [Array.getD_eq_getD_getElem?, h1]
      · have e := Option.some.inj ((Option.some.inj h).trans hav')
        subst e
        exact ⟨rfl, h2⟩
    · cases h
  · rename_i t ty hl
    split at h
    · rename_i k n hk hn
      split at h
      · rename_i b hb
        split at h
        · rename_i hlen
          have hlen := Nat.eq_of_beq_eq_true hlen
          obtain ⟨h1, _⟩ := M.tm t _ hk
          obtain ⟨hw, hok⟩ := W.mem k b hb
          obtain ⟨e, hu, -, -, h3, -⟩ := hT.arr ty n.1 n.2 (look_mem hn)
          refine ⟨.agg (b.2.map (sv C.ρ)).toArray, ?_, fun av' hav' => ?_⟩
          · exact results_cell_row (hres _ hl) a.tmps w (blk bl k) b.1 (b.2.map (sv C.ρ)).toArray (0, 0) (.array n.1 e) (by simp [Array.getD_eq_getD_getElem?, h1, AV.conc]) hw hu rfl (by rw [size_of_both h3]; simp [hlen])
          · have e := Option.some.inj ((Option.some.inj h).trans hav')
            subst e
            exact ⟨rfl, hok⟩
        · cases h
      · cases h
    · cases h
  · cases h

/-- Blocks are forgotten. -/
theorem MM.forget {s : St} {bl t : List Nat} {w : World} (W : MM C s (bl ++ t) w) {m : Nat} (hm : bl.length = m) : MM C { s with mem := s.mem.take m } bl w := by
  have hlen := W.len
  have hb : ∀ k, k < bl.length → blk (bl ++ t) k = blk bl k := fun k hk => by simp [blk, List.getD_eq_getElem?_getD, List.getElem?_append_left hk]
  refine ⟨by simp at hlen ⊢; omega, fun j k hj hk e => W.inj j k (by simp; omega) (by simp; omega) (by rw [hb j hj, hb k hk]; exact e), fun k b hk => ?_, fun k hk => by rw [← hb k hk]; exact W.new k (by simp; omega), W.keeps⟩
  have hk' : k < m := by
    have := (List.getElem?_eq_some_iff.1 hk).1
    simp at this; omega
  rw [List.getElem?_take, if_pos hk'] at hk
  rw [← hb k (by omega)]
  exact W.mem k b hk

theorem plain_conc {r : Option AV} (h : plainRes r = true) {av : AV} (hr : r = some av) (ρ β β' : Nat → Nat) (m m' : Nat) (hok : av.ok ρ m) : av.conc ρ β = av.conc ρ β' ∧ av.ok ρ m' := by
  subst hr
  cases av <;> first | exact ⟨rfl, hok⟩ | cases h

theorem runFun_ok (hT : TabOk C.P T) (hO : OrcsOk C.P T) (hm : C.P.follows .mixedOrders = true) : ∀ d, HandOk C (runFun T d)
  | 0 => fun f fn args s L _ h => by simp [runFun] at h
  | d + 1 => fun f fn args s L hf h => by
    unfold runFun at h
    split at h
    · cases h
    · rename_i c hbody
      split at h
      · cases h
      · rename_i hle
        have hle : args.length ≤ fn.ntmps := by simpa using hle
        split at h
        · cases h
        · rename_i L1 h1
          split at h
          · rename_i L2 h2
            have h3 := Option.some.inj h
            subst h3
            have hnext := collect_mem h2
            -- what a state at the end becomes
            have hend : ∀ x ∈ L1, ∃ r, resOf T x.2 fn.results.toList = some r ∧ plainRes r = true ∧ s.mem.length ≤ x.2.mem.length ∧ (r, { x.2 with N := s.N, tm := s.tm, mem := x.2.mem.take s.mem.length }) ∈ dd L2 := fun x hx => by
              obtain ⟨q, qs, h4, h5⟩ := hnext x hx
              split at h4
              · rename_i r hr
                split at h4
                · rename_i hp
                  rw [Bool.and_eq_true] at hp
                  have e := (List.cons.inj (Option.some.inj h4)).1
                  exact ⟨r, hr, hp.1, by simpa using hp.2, dd_mem (by rw [e]; exact h5 q List.mem_cons_self)⟩
                · cases h4
              · cases h4
            refine ⟨fun x hx => ?_, fun bl w W F hok hsat => ?_⟩
            · obtain ⟨y, hy, L', h3, h4⟩ := collect_from h2 x (mem_dd hx)
              split at h3
              · split at h3
                · rename_i hp
                  rw [Bool.and_eq_true] at hp
                  have hp2 : s.mem.length ≤ y.2.mem.length := by simpa using hp.2
                  rw [← Option.some.inj h3] at h4
                  rw [List.mem_singleton.1 h4]
                  exact ⟨rfl, rfl, by simp; omega⟩
                · cases h3
              · cases h3
            · refine calls_of_wp hf hbody ?_
              refine code_sound hT hO (runFun_ok hT hO hm d) (runFun_body T d) (runFun_out T d) hm h1 (fun x hx i hi => ?_) (entered hle hok) (W.same rfl) (F.emit _ _ _ _ _) fun x hx t a' w' M' W' F' => ?_
              · obtain ⟨r, -, -, -, hr⟩ := hend x hx
                exact hsat _ hr i hi
              · obtain ⟨r, hr, hp, hlen, hmem⟩ := hend x hx
                obtain ⟨v, hrun, hv⟩ := res_sound hT fn hr M' W'
                have W'' : MM C { x.2 with N := s.N, tm := s.tm, mem := x.2.mem.take s.mem.length } bl w' := (W'.forget W.len).same rfl
                have F'' : FA C.ρ { x.2 with N := s.N, tm := s.tm, mem := x.2.mem.take s.mem.length } := F'.emit _ _ _ _ _
                have hfin : ∃ v' z, z ∈ dd L2 ∧ Ending.returned v = .returned v' ∧ (∀ av, z.1 = some av → v' = av.conc C.ρ (blk bl) ∧ av.ok C.ρ s.mem.length) ∧ MM C z.2 bl w' ∧ FA C.ρ z.2 := by
                  refine ⟨v, _, hmem, rfl, fun av hav => ?_, W'', F''⟩
                  obtain ⟨h6, h7⟩ := hv av hav
                  obtain ⟨h8, h9⟩ := plain_conc hp hav C.ρ (blk (bl ++ t)) (blk bl) x.2.mem.length s.mem.length h7
                  exact ⟨by rw [h6, h8], h9⟩
                cases x.1 with
                | true => exact ⟨M'.defers, v, hrun, hfin⟩
                | false => exact ⟨M'.defers, v, hrun, hfin⟩
          · cases h

end

/-- The state in which a call begins whose arguments are plain values: no block is known. -/
def St.init (n : Nat) : St := { N := 0, tm := .leaf, mem := [], n := n, cb := 0, pc := [], out := [] }

/-- **A call with plain arguments**: whatever values the variables have that its instructions allow, it comes to one of the ends that the executor names, and nothing that was there has turned. -/
theorem call_plain {P : Program} {T : Tab} (hT : TabOk P T) (hO : OrcsOk P T) (hm : P.follows .mixedOrders = true) {f : FuncId} {fn : Func} (hf : P.funcs[f]? = some fn) {d n : Nat} {args : List AV} {L : List (Option AV × St)}
    (h : runFun T d fn args (St.init n) = some L) {ρ : Nat → Nat} (hargs : ∀ x ∈ args, x.ok ρ 0) (hsat : ∀ x ∈ L, ∀ i ∈ x.2.out, i.sat ρ) (w : World) :
    Calls P f (args.map (AV.conc ρ (blk []))).toArray w fun e w' => Keeps w w' ∧ ∃ v x, x ∈ L ∧ e = .returned v ∧ (∀ av, x.1 = some av → v = av.conc ρ (blk []) ∧ av.ok ρ 0) ∧ FA ρ x.2 := by
  let C : Ctx := { P := P, ρ := ρ, w0 := w }
  have W : MM C (St.init n) [] w := ⟨rfl, fun j k hj => absurd hj (Nat.not_lt_zero _), fun k b hk => absurd hk (by simp [St.init]), fun k hk => absurd hk (Nat.not_lt_zero _), Keeps.refl w⟩
  have F : FA C.ρ (St.init n) := ⟨fun i hi => absurd hi (by simp [St.init]), fun x hx => absurd hx (by simp [St.init])⟩
  obtain ⟨_, hcall⟩ := runFun_ok (C := C) hT hO hm d f fn args (St.init n) L hf h
  exact (hcall [] w W F hargs hsat).mono fun e w' ⟨v, x, hx, he, hv, W', F'⟩ => ⟨W'.keeps, v, x, hx, he, hv, F'⟩

end Go.Fiat

/- A symbolic executor for code over words: calls of functions that are not entered. -/
import Derived.Test.YtcpnimnilojooaaSy5
namespace Go.Fiat
open Go

/-- One of the states that the executor names is the one that is come to. -/
def Rel (C : Ctx) (L : List St) (bl : List Nat) (a : Act) (w : World) : Prop :=
  ∃ s, s ∈ L ∧ ∃ t, MF C s (bl ++ t) a ∧ MM C s (bl ++ t) w ∧ FA C.ρ s

section
variable {C : Ctx} {T : Tab} {H : Handler} {s s' : St} {bl : List Nat} {a : Act} {w w' : World} {o : Oper} {L : List St}

theorem rel_put (M : MF C s bl a) (W : MM C s bl w) (F : FA C.ρ s) {dst : Option Tmp} {av : Option AV} {v : Value} (hav : ∀ x, av = some x → v = x.conc C.ρ (blk bl) ∧ x.ok C.ρ s.mem.length) (h : s.put1 dst av = some L) : Rel C L bl (a.put dst v) w := by
  obtain ⟨s', h1, rfl⟩ := put1_some h
  refine ⟨s', List.mem_singleton.2 rfl, [], ?_⟩
  rw [List.append_nil]
  exact ⟨M.put hav h1, W.same (put_same h1).2.1, F.put h1⟩

theorem rel_one (M : MF C s bl a) (W : MM C s bl w) (F : FA C.ρ s) {dst : Option Tmp} {av : AV} {v : Value} (hv : v = av.conc C.ρ (blk bl)) (hok : av.ok C.ρ s.mem.length) (h : s.put1 dst (some av) = some L) : Rel C L bl (a.put dst v) w :=
  rel_put M W F (fun x hx => by have := Option.some.inj hx; subst this; exact ⟨hv, hok⟩) h

/-- A slice over a new block, or a pointer to it, is put. -/
theorem rel_new (M : MF C s bl a) (W : MM C s bl w) (F : FA C.ρ s) (hk : Keeps w w') {b ty : Nat} {l : List (Bool × Ref)} (hb : w.heap.size ≤ b) (hw : w'.heap[b]? = some (.cells (l.map (sv C.ρ)).toArray ty (0, 0))) (hl : ∀ x ∈ l, sOk C.ρ x)
    {dst : Option Tmp} {av : AV} {v : Value} {n : Nat} {out : List Ins} (hv : v = av.conc C.ρ (blk (bl ++ [b]))) (hok : av.ok C.ρ (s.mem.length + 1)) (h : St.put1 { s with n := n, out := out, mem := s.mem ++ [(ty, l)] } dst (some av) = some L) : Rel C L bl (a.put dst v) w' := by
  have M' : MF C { s with n := n, out := out, mem := s.mem ++ [(ty, l)] } (bl ++ [b]) a := (M.more W.len (ty, l) b).emit n s.cb s.pc out
  have W' : MM C { s with n := n, out := out, mem := s.mem ++ [(ty, l)] } (bl ++ [b]) w' := (W.more hk hb hw hl).same rfl
  have F' : FA C.ρ { s with n := n, out := out, mem := s.mem ++ [(ty, l)] } := F.emit _ _ _ _ _
  obtain ⟨s', h1, rfl⟩ := put1_some h
  exact ⟨s', List.mem_singleton.2 rfl, [b], M'.put (fun x hx => by have := Option.some.inj hx; subst this; exact ⟨hv, by simpa using hok⟩) h1, W'.same (put_same h1).2.1, F'.put h1⟩

theorem row_refs (ρ : Nat → Nat) (byt : Bool) (rs : List Ref) : ((rs.map fun r => (!byt, r)).map (sv ρ)).toArray = rowOf byt (vals ρ rs) := by
  unfold rowOf vals
  rw [List.map_map, List.map_map]
  cases byt <;> rfl

theorem row_words (ρ : Nat → Nat) (rs : List Ref) : ((words rs).map (sv ρ)).toArray = rowOf false (vals ρ rs) := row_refs ρ false rs

theorem refs_lt {ρ : Nat → Nat} {byt : Bool} {rs : List Ref} (h : ∀ x ∈ rs.map (fun r => (!byt, r)), sOk ρ x) : ∀ x ∈ vals ρ rs, x < lim byt := by
  intro x hx
  obtain ⟨r, hr, rfl⟩ := List.mem_map.1 hx
  have := h (!byt, r) (List.mem_map.2 ⟨r, hr, rfl⟩)
  cases byt <;> exact this

theorem vals_vars (ρ : Nat → Nat) (d n : Nat) {k : Kind} {byt : Bool} {args : List (List Ref)} (h : (Ins.fn d n k byt args).sat ρ) : vals ρ (vars d n) = toW n (k.val (args.map fun a => aval byt (vals ρ a))) := by
  unfold vals vars toW
  rw [List.map_map]
  exact List.map_congr_left fun i hi => h i (List.mem_range.1 hi)

theorem words_ok {ρ : Nat → Nat} {rs : List Ref} (h : ∀ x ∈ vals ρ rs, x < 18446744073709551616) : ∀ x ∈ words rs, sOk ρ x := by
  intro x hx
  obtain ⟨r, hr, rfl⟩ := List.mem_map.1 hx
  exact h _ (List.mem_map.2 ⟨r, hr, rfl⟩)

theorem toW_lt (n v : Nat) : ∀ x ∈ toW n v, x < 18446744073709551616 := by
  intro x hx
  obtain ⟨i, -, rfl⟩ := List.mem_map.1 hx
  exact Nat.mod_lt _ (by omega)

theorem toW_length (n v : Nat) : (toW n v).length = n := by simp [toW]

def wvalB (b : Nat) : List Nat → Nat
  | [] => 0
  | x :: r => x + b * wvalB b r

theorem wval_eq_B : ∀ l, wval l = wvalB 18446744073709551616 l
  | [] => rfl
  | x :: r => by rw [wval, wvalB, wval_eq_B r]

theorem digits_val (b : Nat) : ∀ (n v : Nat), wvalB b ((List.range n).map fun i => v / b ^ i % b) = v % b ^ n
  | 0, v => by simp [wvalB, Nat.mod_one]
  | n + 1, v => by
    have ih := digits_val b n (v / b)
    have e : ((List.range (n + 1)).map fun i => v / b ^ i % b) = v % b :: ((List.range n).map fun i => v / b / b ^ i % b) := by
      rw [List.range_succ_eq_map, List.map_cons, List.map_map]
      congr 1
      · simp
      · apply List.map_congr_left
        intro i _
        simp only [Function.comp]
        rw [Nat.pow_succ, Nat.mul_comm, ← Nat.div_div_eq_div_mul]
    rw [e, wvalB, ih, Nat.pow_succ, Nat.mul_comm (b ^ n)]
    exact (Nat.mod_mul).symm

theorem wval_toW (n v : Nat) : wval (toW n v) = v % 18446744073709551616 ^ n := by
  rw [wval_eq_B]; exact digits_val _ n v

theorem consts_vals {ρ : Nat → Nat} : ∀ {xs : List Ref} {l : List Nat}, consts? xs = some l → vals ρ xs = l
  | [], l, h => by rw [← Option.some.inj h]; rfl
  | .k n :: r, l, h => by
    unfold consts? at h
    split at h
    · rename_i l' hl
      rw [← Option.some.inj h]
      show n :: vals ρ r = _
      rw [consts_vals hl]
    · cases h
  | .v _ :: _, l, h => by simp [consts?] at h

theorem isP_val {ρ : Nat → Nat} {p : Nat} {xs : List Ref} (h : isP p xs = true) : wval (vals ρ xs) = p := by
  unfold isP at h
  split at h
  · rename_i l hl
    rw [consts_vals hl]; exact Nat.eq_of_beq_eq_true h
  · cases h

theorem kind_lt {k : Kind} (h : 0 < k.bound) (l : List Nat) : k.val l < k.bound := by
  unfold Kind.val
  split <;> first | exact Nat.mod_lt _ h | (exact absurd h (by decide)) | exact h

theorem knownLess_val (F : FA C.ρ s) {p : Nat} {xs : List Ref} (h : knownLess s p xs = true) (hs : ∀ i ∈ s.out, i.sat C.ρ) : wval (vals C.ρ xs) < p := by
  unfold knownLess at h
  rw [Bool.or_eq_true] at h
  rcases h with h | h
  · split at h
    · rename_i l hl
      rw [consts_vals hl]; simpa using h
    · cases h
  · obtain ⟨i, hi, hq⟩ := List.any_eq_true.1 h
    have hsat := hs i hi
    cases i with
    | less d ys zs =>
      simp only [Bool.and_eq_true, decide_eq_true_eq] at hq
      obtain ⟨⟨rfl, hp⟩, hpc⟩ := hq
      have h1 := F.pc _ hpc
      have h2 : C.ρ d = if wval (vals C.ρ ys) < wval (vals C.ρ zs) then 1 else 0 := hsat
      rw [isP_val hp] at h2
      dsimp only at h1
      rw [h2] at h1
      split at h1
      · assumption
      · cases h1
    | fn d n k byt args =>
      simp only [Bool.and_eq_true, decide_eq_true_eq] at hq
      obtain ⟨⟨rfl, h0⟩, h1⟩ := hq
      have h0 : 0 < k.bound := by simpa using h0
      have h1 : k.bound ≤ p := by simpa using h1
      rw [vals_vars C.ρ d n hsat, wval_toW]
      have := kind_lt h0 (args.map fun a => aval byt (vals C.ρ a))
      have := Nat.mod_le (k.val (args.map fun a => aval byt (vals C.ρ a))) (18446744073709551616 ^ n)
      omega
    | _ => cases hq

/-- Slices as the executor knows them. -/
theorem sliceArg_val (W : MM C s bl w) {k : Bool} {av : AV} {xs : List Ref} (h : sliceArg s (!k) av = some xs) :
    ∃ b, av.conc C.ρ (blk bl) = sl b xs.length ∧ Held w b k (vals C.ρ xs) ∧ ∀ x ∈ vals C.ρ xs, x < lim k := by
  unfold sliceArg at h
  split at h
  · rename_i b len
    split at h
    · rename_i bk hb
      split at h
      · rename_i ys hy
        split at h
        · rename_i hlen
          have hlen := Nat.eq_of_beq_eq_true hlen
          have := Option.some.inj h
          subst this
          obtain ⟨h1, h2⟩ := W.mem b bk hb
          rw [refsOf_eq hy, row_refs] at h1
          rw [refsOf_eq hy] at h2
          exact ⟨blk bl b, by rw [hlen]; rfl, ⟨bk.1, h1⟩, refs_lt h2⟩
        · cases h
      · cases h
    · cases h
  · cases h

theorem sliceArgs_val (W : MM C s bl w) (F : FA C.ρ s) (hs : ∀ i ∈ s.out, i.sat C.ρ) {p n : Nat} : ∀ {m : Nat} {args : List AV} {xs : List (List Ref)}, sliceArgs s p n m args = some xs →
    ∃ (vs : List (List Nat × Nat)) (ms : List Nat) (bm : Nat), args.map (AV.conc C.ρ (blk bl)) = (vs.map fun v => sl v.2 n) ++ [sl bm n] ∧ vs.length = m ∧ vs.map (fun v => wval v.1) = xs.map (fun a => aval false (vals C.ρ a)) ∧
      (∀ v ∈ vs, v.1.length = n ∧ (∀ x ∈ v.1, x < 18446744073709551616) ∧ wval v.1 < p ∧ Held w v.2 false v.1) ∧ ms.length = n ∧ (∀ x ∈ ms, x < 18446744073709551616) ∧ wval ms = p ∧ Held w bm false ms
  | 0, [a], xs, h => by
    simp only [sliceArgs] at h
    split at h
    · rename_i ys hy
      split at h
      · rename_i hq
        rw [Bool.and_eq_true] at hq
        have := Option.some.inj h
        subst this
        obtain ⟨b, h1, h2, h3⟩ := sliceArg_val (k := false) W hy
        have hn := Nat.eq_of_beq_eq_true hq.1
        exact ⟨[], vals C.ρ ys, b, by rw [List.map_cons, h1, hn]; rfl, rfl, rfl, (fun v hv => by cases hv), (by simp [vals, hn]), h3, isP_val hq.2, h2⟩
      · cases h
    · cases h
  | m + 1, a :: r, xs, h => by
    simp only [sliceArgs] at h
    split at h
    · rename_i ys zs hy hz
      split at h
      · rename_i hq
        rw [Bool.and_eq_true] at hq
        have := Option.some.inj h
        subst this
        obtain ⟨b, h1, h2, h3⟩ := sliceArg_val (k := false) W hy
        obtain ⟨vs, ms, bm, e1, e2, e3, e4, e5, e6, e7, e8⟩ := sliceArgs_val W F hs hz
        have hn := Nat.eq_of_beq_eq_true hq.1
        refine ⟨(vals C.ρ ys, b) :: vs, ms, bm, by rw [List.map_cons, h1, hn, e1]; rfl, by simp [e2], by rw [List.map_cons, List.map_cons, e3]; rfl, fun v hv => ?_, e5, e6, e7, e8⟩
        rcases List.mem_cons.1 hv with rfl | hv
        · exact ⟨by simp [vals, hn], h3, knownLess_val F hq.2 hs, h2⟩
        · exact e4 v hv
      · cases h
    · cases h
  | 0, [], xs, h => by simp [sliceArgs] at h
  | 0, _ :: _ :: _, xs, h => by simp [sliceArgs] at h
  | m + 1, [], xs, h => by simp [sliceArgs] at h

theorem aggArgs_val (F : FA C.ρ s) (hs : ∀ i ∈ s.out, i.sat C.ρ) {p len : Nat} {byt : Bool} (hbyt : byt = false ∨ p = 0) : ∀ {args : List AV} {xs : List (List Ref)}, aggArgs s p len byt args = some xs → (∀ av ∈ args, av.ok C.ρ s.mem.length) →
    args.map (AV.conc C.ρ (blk bl)) = (xs.map (vals C.ρ)).map (fun v => Value.agg (rowOf byt v)) ∧ xs.length = args.length ∧ ∀ v ∈ xs.map (vals C.ρ), v.length = len ∧ (∀ x ∈ v, x < lim byt) ∧ (p = 0 ∨ aval byt v < p)
  | [], xs, h, _ => by
    have := Option.some.inj h
    subst this
    exact ⟨rfl, rfl, fun v hv => by cases hv⟩
  | av :: r, xs, h, hok => by
    unfold aggArgs at h
    split at h
    · rename_i hcons
      cases hcons
    · rename_i l r' hcons
      have h1 := List.cons.inj hcons
      obtain ⟨rfl, rfl⟩ := h1
      split at h
      · rename_i ys zs hy hz
        split at h
        · rename_i hq
          rw [Bool.and_eq_true, Bool.or_eq_true] at hq
          have := Option.some.inj h
          subst this
          obtain ⟨e1, e2, e3⟩ := aggArgs_val F hs hbyt hz (fun av hav => hok av (List.mem_cons_of_mem _ hav))
          have hl := hok _ List.mem_cons_self
          have hl' : ∀ x ∈ ys.map (fun r => (!byt, r)), sOk C.ρ x := by rw [← refsOf_eq hy]; exact hl
          refine ⟨?_, by simp [e2], fun v hv => ?_⟩
          · rw [List.map_cons, e1, List.map_cons, List.map_cons]
            congr 1
            show Value.agg _ = _
            rw [refsOf_eq hy, row_refs]
          · rcases List.mem_cons.1 hv with rfl | hv
            · refine ⟨by simp [vals]; exact Nat.eq_of_beq_eq_true hq.1, refs_lt hl', ?_⟩
              rcases hq.2 with h0 | h0
              · exact .inl (Nat.eq_of_beq_eq_true h0)
              · rcases hbyt with rfl | hp
                · exact .inr (knownLess_val F h0 hs)
                · exact .inl hp
            · exact e3 v hv
        · cases h
      · cases h
    · cases h

theorem cons_sat {ins : Ins} {n : Nat} {mem : List (Nat × List (Bool × Ref))} {dst : Option Tmp} {av : Option AV} (h : St.put1 { s with n := n, out := ins :: s.out, mem := mem } dst av = some L) (hsat : ∀ s' ∈ L, ∀ i ∈ s'.out, i.sat C.ρ) :
    ins.sat C.ρ ∧ ∀ i ∈ s.out, i.sat C.ρ := by
  obtain ⟨s', h1, h2⟩ := put1_out h
  exact ⟨hsat s' h1 ins (by rw [h2]; exact List.mem_cons_self), fun i hi => hsat s' h1 i (by rw [h2]; exact List.mem_cons_of_mem _ hi)⟩

/-- An oracle whose arrays are of bytes asks nothing of their numbers. -/
def orcFit : Orc → Prop
  | .aggs _ p _ byt _ _ => byt = false ∨ p = 0
  | _ => True

theorem gives_new {ty : Nat} {xs : List Nat} {rs : List Ref} (hrs : vals C.ρ rs = xs) (hx : ∀ x ∈ xs, x < 18446744073709551616) (M : MF C s bl a) (W : MM C s bl w) (F : FA C.ρ s) {dst : Option Tmp} {n len : Nat} {out : List Ins}
    (hlen : xs.length = len) (h : St.put1 { s with n := n, out := out, mem := s.mem ++ [(ty, words rs)] } dst (some (.slice s.mem.length len)) = some L) {e : Ending} (hg : Gives w ty xs e w') : ∃ v, e = .returned v ∧ Rel C L bl (a.put dst v) w' := by
  obtain ⟨b, he, hb, hw, hk⟩ := hg
  refine ⟨_, he, rel_new M W F hk hb (l := words rs) (by rw [row_words, hrs]; exact hw) (words_ok (by rw [hrs]; exact hx)) ?_ (Nat.lt_succ_self _) h⟩
  rw [hlen]
  show _ = Value.slice (some ⟨blk (bl ++ [b]) s.mem.length, 0, none⟩) len len
  rw [← W.len, blk_last]
  rfl

theorem orc_sound {f : FuncId} {orc : Orc} (hO : OrcOk C.P f orc) (hfit : orcFit orc) {args : List AV} {dst : Option Tmp} (h : orcStep orc args dst s = some L) (hsat : ∀ s' ∈ L, ∀ i ∈ s'.out, i.sat C.ρ)
    (M : MF C s bl a) (W : MM C s bl w) (F : FA C.ρ s) (hok : ∀ av ∈ args, av.ok C.ρ s.mem.length) :
    Calls C.P f (args.map (AV.conc C.ρ (blk bl))).toArray w fun e w' => ∃ v, e = .returned v ∧ Rel C L bl (a.put dst v) w' := by
  unfold orcStep at h
  cases orc with
  | aggs k p len byt m n =>
    dsimp only at h
    split at h
    · rename_i xs hm hx
      obtain ⟨hi, hs⟩ := cons_sat (mem := s.mem) h hsat
      obtain ⟨e1, e2, e3⟩ := aggArgs_val (bl := bl) F hs hfit hx hok
      have hv := vals_vars C.ρ s.n n hi
      rw [e1]
      refine (hO (xs.map (vals C.ρ)) w (by rw [List.length_map, e2]; exact Nat.eq_of_beq_eq_true hm) e3).mono fun e w' ⟨he, hk⟩ => ⟨_, he, ?_⟩
      refine rel_one (s := { s with n := s.n + n, out := .fn s.n n k byt xs :: s.out }) (M.emit _ _ _ _) ((W.keep hk).same rfl) (F.emit _ _ _ _ _) (av := .agg (words (vars s.n n))) ?_ ?_ h
      · show _ = Value.agg _
        rw [row_words, hv, List.map_map]
        rfl
      · exact words_ok (by rw [hv]; exact toW_lt _ _)
    · cases h
  | slis k p m n ty =>
    dsimp only at h
    split at h
    · rename_i xs hx
      obtain ⟨hi, hs⟩ := cons_sat h hsat
      obtain ⟨vs, ms, bm, e1, e2, e3, e4, e5, e6, e7, e8⟩ := sliceArgs_val W F hs hx
      have hv := vals_vars C.ρ s.n n hi
      have e1' : (args.map (AV.conc C.ρ (blk bl))).toArray = ((vs.map fun v => sl v.2 n) ++ [sl bm n]).toArray := by rw [e1]
      rw [e1']
      refine (hO vs ms bm w e2 e4 e5 e6 e7 e8).mono fun e w' hg => ?_
      rw [e3] at hg
      exact gives_new hv (toW_lt _ _) M W F (toW_length _ _) h hg
    · cases h
  | less =>
    dsimp only at h
    split at h
    · rename_i x y
      split at h
      · rename_i xs ys hx hy
        split at h
        · rename_i hlen
          rw [Bool.and_eq_true] at hlen
          have hl6 : xs.length < 65536 := by simpa using hlen.2
          have hlen := Nat.eq_of_beq_eq_true hlen.1
          obtain ⟨hi, hs⟩ := cons_sat (mem := s.mem) h hsat
          obtain ⟨b1, h1, h2, h3⟩ := sliceArg_val (k := false) W hx
          obtain ⟨b2, h1', h2', h3'⟩ := sliceArg_val (k := false) W hy
          have hc := hO (vals C.ρ xs) (vals C.ρ ys) b1 b2 w (by simp [vals, hlen]) (by simpa [vals] using hl6) h3 h3' h2 h2'
          have e : ([x, y].map (AV.conc C.ρ (blk bl))).toArray = #[sl b1 (vals C.ρ xs).length, sl b2 (vals C.ρ xs).length] := by
            simp [h1, h1', vals, hlen]
          rw [e]
          refine hc.mono fun e w' ⟨he, hk⟩ => ⟨_, he, ?_⟩
          refine rel_one (s := { s with n := s.n + 1, out := .less s.n xs ys :: s.out }) (M.emit _ _ _ _) ((W.keep hk).same rfl) (F.emit _ _ _ _ _) (av := .bool false (.v s.n)) ?_ trivial h
          have hd : C.ρ s.n = if wval (vals C.ρ xs) < wval (vals C.ρ ys) then 1 else 0 := hi
          show _ = Value.bool (truth C.ρ false (.v s.n))
          unfold truth
          rw [val_v, hd]
          by_cases hv : wval (vals C.ρ xs) < wval (vals C.ρ ys)
          · simp only [hv, if_true, decide_true]; rfl
          · simp only [hv, if_false, decide_false]; rfl
        · cases h
      · cases h
    · cases h
  | same =>
    dsimp only at h
    split at h
    · rename_i x y
      split at h
      · rename_i xs ys hx hy
        split at h
        · rename_i hlen
          rw [Bool.and_eq_true] at hlen
          have hl6 : xs.length < 65536 := by simpa using hlen.2
          have hlen := Nat.eq_of_beq_eq_true hlen.1
          obtain ⟨hi, hs⟩ := cons_sat (mem := s.mem) h hsat
          obtain ⟨b1, h1, h2, h3⟩ := sliceArg_val (k := false) W hx
          obtain ⟨b2, h1', h2', h3'⟩ := sliceArg_val (k := false) W hy
          have hc := hO (vals C.ρ xs) (vals C.ρ ys) b1 b2 w (by simp [vals, hlen]) (by simpa [vals] using hl6) h3 h3' h2 h2'
          have e : ([x, y].map (AV.conc C.ρ (blk bl))).toArray = #[sl b1 (vals C.ρ xs).length, sl b2 (vals C.ρ xs).length] := by
            simp [h1, h1', vals, hlen]
          rw [e]
          refine hc.mono fun e w' ⟨he, hk⟩ => ⟨_, he, ?_⟩
          refine rel_one (s := { s with n := s.n + 1, out := .same s.n xs ys :: s.out }) (M.emit _ _ _ _) ((W.keep hk).same rfl) (F.emit _ _ _ _ _) (av := .bool false (.v s.n)) ?_ trivial h
          have hd : C.ρ s.n = if vals C.ρ xs = vals C.ρ ys then 1 else 0 := hi
          show _ = Value.bool (truth C.ρ false (.v s.n))
          unfold truth
          rw [val_v, hd]
          by_cases hv : vals C.ρ xs = vals C.ρ ys
          · simp only [hv, if_true, decide_true]; rfl
          · simp only [hv, if_false, decide_false]; rfl
        · cases h
      · cases h
    · cases h
  | consts l ty =>
    dsimp only at h
    split at h
    · refine (hO.2 w).mono fun e w' hg => ?_
      refine gives_new (rs := l.map .k) ?_ hO.1 M W F (n := s.n) (out := s.out) rfl h hg
      unfold vals
      rw [List.map_map]
      exact (List.map_congr_left fun x _ => rfl).trans (List.map_id l)
    · cases h
  | one ty =>
    dsimp only at h
    split at h
    · rename_i n
      split at h
      · rename_i hn
        rw [Bool.and_eq_true] at hn
        refine (hO n w (by simpa using hn.1) (by simpa using hn.2)).mono fun e w' hg => ?_
        have hn1 : 0 < n := by simpa using hn.1
        refine gives_new (rs := .k 1 :: List.replicate (n - 1) (.k 0)) (by simp [vals, Ref.val]) (fun x hx => ?_) M W F (n := s.n) (out := s.out) (by simp; omega) h hg
        rcases List.mem_cons.1 hx with rfl | hx
        · decide
        · rw [List.eq_of_mem_replicate hx]; decide
      · cases h
    · cases h
  | ofB ty =>
    dsimp only at h
    split at h
    · rename_i x n
      split at h
      · rename_i xs hx
        split at h
        · rename_i hn
          rw [Bool.and_eq_true] at hn
          obtain ⟨hi, hs⟩ := cons_sat h hsat
          obtain ⟨b1, h1, h2, h3⟩ := sliceArg_val (k := true) W hx
          have hc := hO (vals C.ρ xs) b1 n w (by simp [vals]; simpa using hn.1) (by simpa using hn.2) h3 h2
          have e : ([x, AV.int n].map (AV.conc C.ρ (blk bl))).toArray = #[sl b1 (vals C.ρ xs).length, .int .i64 (n : Nat)] := by
            rw [List.map_cons, h1]; simp [vals, AV.conc]
          rw [e]
          refine hc.mono fun e w' hg => ?_
          exact gives_new (vals_vars C.ρ s.n n hi) (toW_lt _ _) M W F (toW_length _ _) h hg
        · cases h
      · cases h
    · cases h

end
end Go.Fiat

/- Arrays of numbers as arguments of a row: opened and shut. -/
import Derived.Test.YtcpnimnilojooaaB1
import Derived.ProofKit
import Derived.OpenShut
namespace Go.Fiat
open Go

def bk (byt : Bool) : IntKind := match byt with | true => .u8 | false => .u64
theorem rowOf_bk (byt : Bool) (xs : List Nat) : rowOf byt xs = (xs.map fun x => Value.int (bk byt) (x : Nat)).toArray := rfl
theorem bk_bounds {byt : Bool} {z : Int} : (Lit.int (bk byt) z).wf = true ↔ 0 ≤ z ∧ z < (lim byt : Nat) := by
  cases byt <;> simp [Lit.wf, bk, IntKind.min, IntKind.max, IntKind.signed, IntKind.bits, lim] <;> omega

theorem trod_arr {H : Type} {enc : TypeId × Value → H} {P : Program} {W : World} {base : Nat} {spare : Nat → Bool} {held : Bool} {t e n fuel : Nat} {k : IntKind} {cs : List Value} {x : DataW H × List MemPlace}
    (ht : P.underlying t = some (.array n e)) (he : P.underlying e = some (.int k)) (hce : P.cellsOf e = 1) (hct : P.cellsOf t = n) (h : DataW.trod enc P W base spare held fuel t cs = some x) :
    ∃ zs : List Int, cs = zs.map (Value.int k) ∧ x = (.agg (zs.map fun z => .lit (.int k z)), []) ∧ zs.length = n ∧ ∀ z ∈ zs, (Lit.int k z).wf = true := by
  obtain ⟨xs, m, -, hx, hlen, hn, hel⟩ := DataW.trod_array ht h
  rw [hct] at hlen
  have hone : ∀ i, (hi : i < n) → ∃ z, cs[i]? = some (.int k z) ∧ xs[i]? = some (.lit (.int k z), []) ∧ (Lit.int k z).wf = true := by
    intro i hi
    have h1 := hel i hi
    have hxi : i < xs.length := by omega
    rw [hce, Nat.mul_one, List.getElem?_eq_getElem hxi] at h1
    obtain ⟨z, h2, h3, h4⟩ := DataW.trod_int he h1
    rw [List.drop_eq_getElem_cons (by omega : i < cs.length)] at h2
    simp only [List.take_succ_cons, List.take_zero, List.cons.injEq, and_true] at h2
    exact ⟨z, by rw [List.getElem?_eq_getElem (by omega), h2], by rw [List.getElem?_eq_getElem hxi, h3], h4⟩
  have hz : ∀ i, ∃ z, i < n → cs[i]? = some (.int k z) ∧ xs[i]? = some (.lit (.int k z), []) ∧ (Lit.int k z).wf = true := fun i => by
    rcases Nat.lt_or_ge i n with hi | hi
    · obtain ⟨z, h⟩ := hone i hi; exact ⟨z, fun _ => h⟩
    · exact ⟨0, fun h => absurd h (by omega)⟩
  obtain ⟨g, hg⟩ := Classical.axiomOfChoice hz
  refine ⟨(List.range n).map g, ?_, ?_, by simp, fun z hz' => ?_⟩
  · apply List.ext_getElem?
    intro i
    rcases Nat.lt_or_ge i n with hi | hi
    · rw [(hg i hi).1]; simp [hi]
    · rw [List.getElem?_eq_none (by omega), List.getElem?_eq_none (by simpa using hi)]
  · have e1 : xs = (List.range n).map fun i => ((.lit (.int k (g i)), []) : DataW H × List MemPlace) := by
      apply List.ext_getElem?
      intro i
      rcases Nat.lt_or_ge i n with hi | hi
      · rw [(hg i hi).2.1]; simp [hi]
      · rw [List.getElem?_eq_none (by omega), List.getElem?_eq_none (by simpa using hi)]
    rw [hx, e1]
    have e2 : ∀ l : List Nat, (l.map fun i => ((.lit (.int k (g i)), []) : DataW H × List MemPlace)).flatMap (·.2) = [] := by
      intro l
      induction l with
      | nil => rfl
      | cons _ _ _ => simp
    rw [e2, List.map_map, List.map_map]
    rfl
  · obtain ⟨i, hi, rfl⟩ := List.mem_map.1 hz'
    exact (hg i (List.mem_range.1 hi)).2.2

/-- An array of words (or bytes): what comes in. -/
theorem open_arr {H : Type} {enc : TypeId × Value → H} {P : Program} {W : World} {b base : Nat} {r : Reach} {spare : Nat → Bool} {held : Bool} {t e n : Nat} (byt : Bool) {v : Value} {d : DataW H} {p : List MemPlace}
    (ht : P.underlying t = some (.array n e)) (he : P.underlying e = some (.int (bk byt))) (hce : P.cellsOf e = 1) (hct : P.cellsOf t = n)
    (hv : Value.okWide P W r b t v) (h : DataW.Trod enc P W base spare held t v d p) :
    ∃ xs : List Nat, v = .agg (rowOf byt xs) ∧ d = .agg (xs.map fun x => .lit (.int (bk byt) (x : Nat))) ∧ p = [] ∧ xs.length = n ∧ ∀ x ∈ xs, x < lim byt := by
  obtain ⟨cs, rfl, -, -⟩ : ∃ cs, v = .agg cs ∧ cs.size = P.cellsOf t ∧ Row.okWide P W r b t cs := by simpa [Value.okWide, ht] using hv
  obtain ⟨fuel, hf⟩ := h
  obtain ⟨zs, h1, h2, h3, h4⟩ := trod_arr ht he hce hct hf
  have hb : ∀ z ∈ zs, 0 ≤ z ∧ z < (lim byt : Nat) := fun z hz => by
    exact bk_bounds.1 (h4 z hz)
  have e1 : zs = zs.map (fun z => ((z.toNat : Nat) : Int)) := by
    conv => lhs; rw [← List.map_id zs]
    exact List.map_congr_left fun z hz => by have := hb z hz; simp; omega
  obtain ⟨h5, h6⟩ := Prod.mk.inj h2
  refine ⟨zs.map Int.toNat, ?_, ?_, h6, by simp [h3], fun x hx => ?_⟩
  · congr 1
    apply Array.ext'
    have h1' : cs.toList = zs.map (Value.int (bk byt)) := by simpa [Value.cells] using h1
    rw [h1', rowOf_bk]
    conv => lhs; rw [e1]
    simp
  · rw [h5]
    congr 1
    conv => lhs; rw [e1]
    simp
  · obtain ⟨z, hz, rfl⟩ := List.mem_map.1 hx
    have := hb z hz
    omega

theorem trod_arr_mk {H : Type} {enc : TypeId × Value → H} {P : Program} {W : World} {base : Nat} {spare : Nat → Bool} {held : Bool} {t e n m : Nat} {cs : List Value} {xs : List (DataW H × List MemPlace)}
    (ht : P.underlying t = some (.array n e)) (hl : cs.length = P.cellsOf t) (h : ((List.range n).mapM fun i => DataW.trod enc P W base spare held m e ((cs.drop (i * P.cellsOf e)).take (P.cellsOf e))) = some xs) :
    DataW.trod enc P W base spare held (m + 1) t cs = some (.agg (xs.map (·.1)), xs.flatMap (·.2)) := by
  simp only [DataW.trod, ht]
  rw [if_pos hl, h]
  rfl

/-- The same behind the call. -/
theorem shut_arr {H : Type} {enc : TypeId × Value → H} {P : Program} {W : World} {base : Nat} {spare : Nat → Bool} {held : Bool} {t e n : Nat} (byt : Bool) {xs : List Nat}
    (ht : P.underlying t = some (.array n e)) (he : P.underlying e = some (.int (bk byt))) (hce : P.cellsOf e = 1) (hct : P.cellsOf t = n) (hl : xs.length = n) (hx : ∀ x ∈ xs, x < lim byt) :
    DataW.Trod enc P W base spare held t (.agg (rowOf byt xs)) (.agg (xs.map fun x => .lit (.int (bk byt) (x : Nat)))) [] := by
  refine ⟨2, ?_⟩
  have hcs : (Value.agg (rowOf byt xs)).cells.toList = xs.map fun x => Value.int (bk byt) (x : Nat) := by rw [rowOf_bk]; simp [Value.cells]
  rw [hcs]
  have hone : ∀ i ∈ List.range n, (DataW.trod enc P W base spare held 1 e (((xs.map fun x => Value.int (bk byt) (x : Nat)).drop i).take 1)) = some ((.lit (.int (bk byt) ((xs.getD i 0 : Nat) : Int)), []) : DataW H × List MemPlace) := by
    intro i hi
    have hi := List.mem_range.1 hi
    rw [List.drop_eq_getElem_cons (by simpa using (by omega : i < xs.length))]
    simp only [List.take_succ_cons, List.take_zero, List.getElem_map]
    have hxi : xs.getD i 0 = xs[i] := by simp [List.getD_eq_getElem?_getD, (by omega : i < xs.length)]
    have hw : (Lit.int (bk byt) ((xs[i] : Nat) : Int)).wf = true := by
      have := hx _ (List.getElem_mem (by omega : i < xs.length))
      exact bk_bounds.2 ⟨by omega, by omega⟩
    rw [hxi]
    simp only [DataW.trod, he]
    simp [hw]
  have hm : ∀ (l : List Nat) (f : Nat → Option (DataW H × List MemPlace)) (g : Nat → DataW H × List MemPlace), (∀ i ∈ l, f i = some (g i)) → l.mapM f = some (l.map g) := by
    intro l f g
    induction l with
    | nil => intro _; rfl
    | cons a r ih =>
      intro h
      rw [List.mapM_cons, h a List.mem_cons_self, ih (fun i hi => h i (List.mem_cons_of_mem _ hi))]
      rfl
  rw [trod_arr_mk ht (by rw [List.length_map, hct, hl]) (by rw [hce]; simp only [Nat.mul_one]; exact hm _ _ _ hone)]
  simp only [List.map_map, Option.some.injEq, Prod.mk.injEq]
  constructor
  · congr 1
    apply List.ext_getElem?
    intro i
    rcases Nat.lt_or_ge i n with hi | hi
    · simp [hi, List.getD_eq_getElem?_getD, (by omega : i < xs.length)]
    · rw [List.getElem?_eq_none (by simpa using hi), List.getElem?_eq_none (by simp; omega)]
  · have e2 : ∀ l : List Nat, (l.map fun i => ((.lit (.int (bk byt) ((xs.getD i 0 : Nat) : Int)), []) : DataW H × List MemPlace)).flatMap (·.2) = [] := by
      intro l
      induction l with
      | nil => rfl
      | cons _ _ _ => simp
    exact e2 _

theorem Keeps.kept {W w : World} (h : Keeps W w) (may : MemPlace → Prop) : W.keptBut w may := by
  refine ⟨h.os, h.output, fun i hi => ?_⟩
  rw [h.block i hi]
  split <;> simp_all

end Go.Fiat

import Derived.Test.YtiookfmjekcelaaW1
import Derived.StillTailTactics
import Derived.Laws.MakeOwn
import Derived.KernelRfl
namespace Go.Fiat
open Go Go.Proofs Go.RowKit

theorem ret_val {a b : Value} (h : a = b) : Ending.returned a = .returned b := by rw [h]

theorem gives_alloc {w : World} {ty : Nat} {xs : List Nat} {c : Array Value} {v : Value} (hc : c = rowOf false xs) (hv : v = sl w.heap.size xs.length) : Gives w ty xs (.returned v) (w.alloc (.cells c ty (0, 0))) := by
  subst hc; subst hv
  exact ⟨w.heap.size, rfl, Nat.le_refl _, by show (w.heap.push _)[w.heap.size]? = _; simp, Keeps.alloc _ _ _⟩

theorem w521_any (w : World) : Calls Try.prog 7 #[] w (Gives w 26 [18446744073709551615, 18446744073709551615, 18446744073709551615, 18446744073709551615, 18446744073709551615, 18446744073709551615, 18446744073709551615, 18446744073709551615, 511]) := by
  go_enter Try.func7, Try.ntmps7
  go_wp2
  go_ret
  exact gives_alloc rfl rfl

theorem info26 : (Try.prog.info? 26).map (fun i => (i.zero, i.size, i.bytes)) = some (some (.int .u64 0), 1, 8) := by kernel_rfl
theorem und23 : Try.prog.underlying 23 = some (.slice 26) := by kernel_rfl

theorem make_words (n : Nat) (hn : n < 65536) (w : World) : (Instr.makeSlice 23 (.int .i64 (n : Nat)) (.int .i64 (n : Nat))).run Try.prog w = .ok (.slice (some ⟨w.heap.size, 0, none⟩) n n) (w.alloc (.cells (rowOf false (List.replicate n 0)) 26 (0, 0))) := by
  cases hi : Try.prog.info? 26 with
  | none => have := info26; rw [hi] at this; cases this
  | some i =>
    have h := info26
    rw [hi] at h
    simp only [Option.map_some, Option.some.injEq, Prod.mk.injEq] at h
    obtain ⟨h1, h2, h3⟩ := h
    have hr := run_make (P := Try.prog) w 23 26 i (.int .u64 0) und23 hi h1 .i64 .i64 (n : Nat) (n : Nat) (by omega) (by omega) (by rw [h3]; omega) (by omega)
    rw [h2] at hr
    rw [hr]
    congr 3
    simp only [madeCells, rowOf, Value.cells]
    apply Array.ext'
    simp
    apply List.ext_getElem?
    intro j
    rcases Nat.lt_or_ge j n with hj | hj
    · simp [hj, Nat.mod_one]
    · rw [List.getElem?_eq_none (by simpa using hj), List.getElem?_eq_none (by simpa using hj)]

theorem cell_keep {w wr : World} (K : Keeps w wr) {b : Nat} (hb : b < w.heap.size) (k : Nat) : wr.cell? ⟨b, k, none⟩ = w.cell? ⟨b, k, none⟩ := by
  simp [World.cell?, K.block b hb]

theorem row_set (l : List Nat) (q z : Nat) : (rowOf false l).setIfInBounds q (.int .u64 (z : Nat)) = rowOf false (l.set q z) := by
  apply Array.ext'
  simp [rowOf, List.map_set]

/-- A word of a block of the call's own is set. -/
theorem own_set {w wr : World} {b ty q z : Nat} {l : List Nat} (K : Keeps w wr) (hb : w.heap.size ≤ b) (h : wr.heap[b]? = some (.cells (rowOf false l) ty (0, 0))) :
    Keeps w (wr.setCell ⟨b, q, none⟩ (.int .u64 (z : Nat))) ∧ (wr.setCell ⟨b, q, none⟩ (.int .u64 (z : Nat))).heap[b]? = some (.cells (rowOf false (l.set q z)) ty (0, 0)) := by
  have T := turned_setCell (off := q) (v := .int .u64 (z : Nat)) h
  refine ⟨⟨T.os.trans K.os, T.tape.trans K.tape, T.output.trans K.output, by rw [T.size]; exact K.size, fun j hj => ?_, fun a => (T.frozen a).trans (K.frozen a)⟩, by rw [← row_set]; exact T.at_⟩
  rw [T.other j (by omega)]; exact K.block j hj

theorem own_drew {w wr : World} {b : Nat} {o : Obj} (K : Keeps w wr) (h : wr.heap[b]? = some o) : Keeps w wr.drew ∧ wr.drew.heap[b]? = some o :=
  ⟨K.trans (Keeps.drew wr), h⟩

theorem bval_lt : ∀ l : List Nat, (∀ x ∈ l, x < 256) → bval l < 256 ^ l.length
  | [], _ => by simp [bval]
  | x :: r, h => by
    have ih := bval_lt r (fun y hy => h y (List.mem_cons_of_mem _ hy))
    have hx := h x List.mem_cons_self
    rw [bval, List.length_cons, Nat.pow_succ, Nat.mul_comm (_ ^ _)]
    omega

theorem bval_app : ∀ (l m : List Nat), bval (l ++ m) = bval l + 256 ^ l.length * bval m
  | [], m => by simp [bval]
  | x :: r, m => by
    rw [List.cons_append, bval, bval_app r m, bval, List.length_cons, Nat.pow_succ, Nat.mul_add, ← Nat.mul_assoc, Nat.mul_comm (_ ^ _) 256]
    omega

theorem gx_toW {n v q : Nat} (h : q < n) : gx (toW n v) q = v / 18446744073709551616 ^ q % 18446744073709551616 := by
  simp [gx, toW, List.getD_eq_getElem?_getD, h]

theorem gx_lt {xs : List Nat} {k b : Nat} (h : ∀ x ∈ xs, x < b) (hk : k < xs.length) : gx xs k < b := by
  have : gx xs k = xs[k] := by simp [gx, List.getD_eq_getElem?_getD, hk]
  rw [this]; exact h _ (List.getElem_mem hk)

/-- One more part is put into its word. -/
theorem toW_put {n B q t x : Nat} (hq : q < n) (hB : B < 18446744073709551616 ^ q * 2 ^ t) (ht : t + 8 ≤ 64) (hx : x < 256) :
    (toW n B).set q ((gx (toW n B) q + x * 2 ^ t % 18446744073709551616) % 18446744073709551616) = toW n (B + 18446744073709551616 ^ q * 2 ^ t * x) := by
  apply List.ext_getElem?
  intro i
  rw [List.getElem?_set]
  have hW : 0 < 18446744073709551616 ^ q := Nat.pow_pos (by omega)
  split
  · rename_i hi
    subst hi
    rw [if_pos (by simp [toW]; exact hq), gx_toW hq]
    simp only [toW, List.getElem?_map, List.getElem?_range hq, Option.map_some]
    rw [Nat.mul_assoc, Nat.add_mul_div_left _ _ hW, Nat.mul_comm (2 ^ t) x, ← Nat.add_mod]
  · rename_i hi
    rcases Nat.lt_or_ge i n with hin | hin
    · simp only [toW, List.getElem?_map, List.getElem?_range hin, Option.map_some]
      congr 1
      rcases Nat.lt_or_ge i q with h1 | h1
      · obtain ⟨d, rfl⟩ : ∃ d, q = i + 1 + d := ⟨q - (i + 1), by omega⟩
        rw [show 18446744073709551616 ^ (i + 1 + d) * 2 ^ t * x = 18446744073709551616 ^ i * (18446744073709551616 * (18446744073709551616 ^ d * 2 ^ t * x)) by
          rw [Nat.pow_add, Nat.pow_succ]; simp only [Nat.mul_assoc]]
        rw [Nat.add_mul_div_left _ _ (Nat.pow_pos (by omega)), Nat.add_mul_mod_self_left]
      · have h2 : 18446744073709551616 ^ (q + 1) ≤ 18446744073709551616 ^ i := Nat.pow_le_pow_right (by omega) (by omega)
        have h3 : 18446744073709551616 ^ q * 2 ^ t * 256 ≤ 18446744073709551616 ^ (q + 1) := by
          rw [Nat.pow_succ, Nat.mul_assoc]
          refine Nat.mul_le_mul_left _ ?_
          have : 2 ^ (t + 8) ≤ 2 ^ 64 := Nat.pow_le_pow_right (by omega) ht
          rw [Nat.pow_add] at this
          omega
        have h4 : 18446744073709551616 ^ q * 2 ^ t * x ≤ 18446744073709551616 ^ q * 2 ^ t * 255 := Nat.mul_le_mul_left _ (by omega)
        rw [Nat.div_eq_of_lt (by omega), Nat.div_eq_of_lt (by omega)]
    · rw [List.getElem?_eq_none (by simpa [toW] using hin), List.getElem?_eq_none (by simpa [toW] using hin)]

theorem toW_length' (n v : Nat) : (toW n v).length = n := by simp [toW]

/-- The first k bytes, as n words. -/
def ofK (xs : List Nat) (n k : Nat) : List Nat := toW n (bval (xs.take k))

theorem ofK_step {xs : List Nat} {n k len q r t x y o z : Nat} (hl : xs.length = len) (hk : k < len) (hln : len ≤ 8 * n) (hw : ∀ x ∈ xs, x < 256) (hq : q = k / 8) (hr : r = k % 8) (ht : t = 8 * r) (hx : x = gx xs k)
    (hy : y = x * 2 ^ t % 18446744073709551616) (ho : o = gx (ofK xs n k) q) (hz : z = (o + y) % 18446744073709551616) : (ofK xs n k).set q z = ofK xs n (k + 1) := by
  have e1 : xs.take (k + 1) = xs.take k ++ [gx xs k] := by
    rw [List.take_succ_eq_append_getElem (by omega)]
    simp [gx, List.getD_eq_getElem?_getD, hl, hk]
  have e2 : 256 ^ k = 18446744073709551616 ^ q * 2 ^ t := by
    rw [show (256 : Nat) = 2 ^ 8 by rfl, show (18446744073709551616 : Nat) = 2 ^ 64 by rfl, ← Nat.pow_mul, ← Nat.pow_mul, ← Nat.pow_add]
    congr 1; omega
  have e3 : bval (xs.take (k + 1)) = bval (xs.take k) + 18446744073709551616 ^ q * 2 ^ t * x := by
    rw [e1, bval_app, List.length_take, Nat.min_eq_left (by omega), e2, hx]; simp [bval]
  have h1 : bval (xs.take k) < 18446744073709551616 ^ q * 2 ^ t := by
    have := bval_lt (xs.take k) (fun x hx => hw x (List.mem_of_mem_take hx))
    rw [List.length_take, Nat.min_eq_left (by omega), e2] at this
    exact this
  unfold ofK at *
  rw [e3, ← toW_put (by omega) h1 (by omega) (by rw [hx]; exact gx_lt hw (by omega)), hz, ho, hy]

theorem ofK_zero {xs : List Nat} {n : Nat} : ofK xs n 0 = List.replicate n 0 := by
  apply List.ext_getElem?
  intro i
  rcases Nat.lt_or_ge i n with h | h
  · simp [ofK, bval, toW, h]
  · rw [List.getElem?_eq_none (by simpa [ofK, toW] using h), List.getElem?_eq_none (by simpa using h)]

theorem of_any (xs : List Nat) (bx tx len n : Nat) (w : World) (hlx : xs.length = len) (hn : n < 65536) (hln : len ≤ 8 * n) (wx : ∀ x ∈ xs, x < 256)
    (hx : w.heap[bx]? = some (.cells (rowOf true xs) tx (0, 0))) :
    Calls Try.prog 4 #[sl bx len, .int .i64 (n : Nat)] w (Gives w 26 (toW n (bval xs))) := by
  have HX' : ∀ k, k < len → w.cell? ⟨bx, k, none⟩ = some (.int .u8 ((gx xs k : Nat) : Int)) := fun k hk => cell_byte hx (by omega)
  have HX := Lib.hid HX'
  have HLX := Lib.hid hlx
  have HWX := Lib.hid wx
  have HB := Lib.hid (show bx < w.heap.size from (Array.getElem?_eq_some_iff.1 hx).1)
  clear hx HX' hlx wx
  have hmk := make_words n hn w
  unfold sl
  go_enter Try.func4, Try.ntmps4
  go_wp2
  go_loopw [6] (fun i wr => ∃ k : Nat, k ≤ len ∧ i = .int .i64 k ∧ Hid (Keeps w wr ∧ wr.heap[w.heap.size]? = some (.cells (rowOf false (ofK xs n k)) 26 (0, 0)))) (fun i _ => len - (intOf i).toNat)
  case atStart => exact ⟨0, Nat.zero_le _, rfl, Lib.hid ⟨Keeps.alloc _ _ _, by rw [heap_new, ofK_zero]⟩⟩
  case round =>
    obtain ⟨k, hk, rfl, ht⟩ := hrel
    by_cases hlt : k < len
    · have hxk : wr.cell? ⟨bx, k, none⟩ = some (.int .u8 ((gx xs k : Nat) : Int)) := (cell_keep ht.out.1 HB.out k).trans (HX.out k hlt)
      obtain ⟨q, hq⟩ : ∃ q, q = k / 8 := ⟨_, rfl⟩
      obtain ⟨r, hr⟩ : ∃ r, r = k % 8 := ⟨_, rfl⟩
      obtain ⟨t, ht8⟩ : ∃ t, t = 8 * r := ⟨_, rfl⟩
      have hok : wr.cell? ⟨w.heap.size, q, none⟩ = some (.int .u64 ((gx (ofK xs n k) q : Nat) : Int)) := cell_word ht.out.2 (by simp [ofK, toW]; omega)
      have hfz : wr.frozen? ⟨w.heap.size, q, none⟩ = false := by simp [World.frozen?, ht.out.2]
      have hk8 : q < n := by omega
      have ht64 : t < 64 := by omega
      have c1 : IntKind.i64.wrap ((k : Int) / 8) = (q : Int) := by rw [IntKind.wrap_i64]; omega
      have c2 : (k : Int).tmod 8 = (r : Int) := by rw [Int.tmod_eq_emod_of_nonneg (by omega)]; omega
      obtain ⟨x, hx⟩ : ∃ x, x = gx xs k := ⟨_, rfl⟩
      obtain ⟨y, hy⟩ : ∃ y, y = x * 2 ^ t % 18446744073709551616 := ⟨_, rfl⟩
      obtain ⟨o, ho⟩ : ∃ o, o = gx (ofK xs n k) q := ⟨_, rfl⟩
      obtain ⟨z, hz⟩ : ∃ z, z = (o + y) % 18446744073709551616 := ⟨_, rfl⟩
      rw [← hx] at hxk
      rw [← ho] at hok
      have hxb : x < 256 := by rw [hx]; exact gx_lt HWX.out (by have := HLX.out; omega)
      have c0 : IntKind.u64.wrap (x : Int) = (x : Int) := by rw [IntKind.wrap_u64]; omega
      have c4 : IntKind.u64.wrap ((o : Int) + (y : Int)) = (z : Int) := by rw [IntKind.wrap_u64]; omega
      have c5 : ∀ w, (Op.shift .shl .u64 (x : Int) .i64 (t : Int)).run Try.prog w = .ok (.int .u64 (y : Int)) w := fun w => by rw [hy]; exact run_shl _ _ _ _ rfl ht64 _ _
      have c3 : IntKind.i64.wrap (8 * (r : Int)) = (t : Int) := by rw [IntKind.wrap_i64]; omega
      have hxk2 : World.cell? { heap := wr.heap, tape := wr.tape, drawn := wr.drawn + 1, os := wr.os, output := wr.output } ⟨bx, k, none⟩ = some (.int .u8 (x : Int)) := hxk
      have hok2 : World.cell? { heap := wr.heap, tape := wr.tape, drawn := wr.drawn + 1, os := wr.os, output := wr.output } ⟨w.heap.size, q, none⟩ = some (.int .u64 (o : Int)) := hok
      have hfz2 : World.frozen? { heap := wr.heap, tape := wr.tape, drawn := wr.drawn + 1, os := wr.os, output := wr.output } ⟨w.heap.size, q, none⟩ = false := hfz
      have HQ := Lib.hid hq
      have HR := Lib.hid hr
      have HT := Lib.hid ht8
      have HX1 := Lib.hid hx
      have HY1 := Lib.hid hy
      have HO1 := Lib.hid ho
      have HZ1 := Lib.hid hz
      clear hq hr ht8 hx hy ho hz
      go_wp2
      go_still_tail 18, (by kernel_rfl)
      change wpList _ _ _ _ _ wr.drew
      generalize hw2 : wr.drew = w2
      have hok3 : w2.cell? ⟨w.heap.size, q, none⟩ = some (.int .u64 (o : Int)) := by rw [← hw2]; exact hok
      have hfz3 : w2.frozen? ⟨w.heap.size, q, none⟩ = false := by rw [← hw2]; exact hfz
      have HW2 := Lib.hid hw2
      clear hw2
      go_wp2
      go_roundw
      case rel =>
        have h0 := own_drew ht.out.1 ht.out.2
        rw [HW2.out] at h0
        have h1 := own_set (q := q) (z := z) h0.1 (Nat.le_refl _) h0.2
        rw [ofK_step HLX.out hlt hln HWX.out HQ.out HR.out HT.out HX1.out HY1.out HO1.out HZ1.out] at h1
        have ez : IntKind.u64.wrap ((o : Int) + IntKind.u64.wrap ((x : Int) * 2 ^ t)) = (z : Int) := by
          have h2 := HY1.out
          have h3 := HZ1.out
          rw [IntKind.wrap_u64, IntKind.wrap_u64, show (x : Int) * 2 ^ t = ((x * 2 ^ t : Nat) : Int) by simp]
          generalize x * 2 ^ t = u at *
          omega
        rw [← ez] at h1
        exact ⟨k + 1, by omega, by go_num, Lib.hid h1⟩
      case measure => simp [intOf]; omega
    · go_wp2
      go_ret
      have h0 := ht.out
      have hkl : k = len := by omega
      refine ⟨w.heap.size, ret_val ?_, Nat.le_refl _, ?_, h0.1⟩
      · rw [toW_length']; rfl
      · have e : ofK xs n k = toW n (bval xs) := by unfold ofK; rw [List.take_of_length_le (by have := HLX.out; omega)]
        rw [← e]; exact h0.2
end Go.Fiat

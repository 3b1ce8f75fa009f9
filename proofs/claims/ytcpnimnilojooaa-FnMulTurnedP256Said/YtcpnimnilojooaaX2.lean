/- The walks of SameWords and LessWords. -/
import Derived.WalkKit
import Derived.Deep.QuietTactic
import Derived.BigQuiet
import Derived.Lib.Hide
import Derived.Test.YtcpnimnilojooaaX1
import Derived.Test.YtcpnimnilojooaaProg
namespace Go.Fiat
open Go Go.Proofs Go.RowKit

theorem cell_word {w : World} {b ty : Nat} {xs : List Nat} (h : w.heap[b]? = some (.cells (rowOf false xs) ty (0, 0))) {k : Nat} (hk : k < xs.length) :
    w.cell? ⟨b, k, none⟩ = some (.int .u64 ((gx xs k : Nat) : Int)) := by
  simp [World.cell?, h, rowOf, gx, List.getD_eq_getElem?_getD, hk]
theorem cell_byte {w : World} {b ty : Nat} {xs : List Nat} (h : w.heap[b]? = some (.cells (rowOf true xs) ty (0, 0))) {k : Nat} (hk : k < xs.length) :
    w.cell? ⟨b, k, none⟩ = some (.int .u8 ((gx xs k : Nat) : Int)) := by
  simp [World.cell?, h, rowOf, gx, List.getD_eq_getElem?_getD, hk]

def QB (w : World) (r : Bool) (e : Ending) (w' : World) : Prop := e = .returned (.bool r) ∧ ∃ n, w' = w.drewN n

theorem drewN_add (w : World) (a b : Nat) : (w.drewN a).drewN b = w.drewN (a + b) := by
  unfold World.drewN; simp [Nat.add_assoc]

theorem take_step (xs ys : List Nat) {k len : Nat} (hx : xs.length = len) (hy : ys.length = len) (hk : k < len) (h : xs.take k = ys.take k) (e : gx xs k = gx ys k) : xs.take (k + 1) = ys.take (k + 1) := by
  rw [List.take_succ_eq_append_getElem (by omega), List.take_succ_eq_append_getElem (by omega), h]
  simp [gx, List.getD_eq_getElem?_getD, hx, hy, hk] at e
  rw [e]

theorem ne_of_gx {xs ys : List Nat} {k : Nat} (e : ¬ gx xs k = gx ys k) : decide (xs = ys) = false := by
  rw [decide_eq_false_iff_not]; intro h; exact e (by rw [h])

theorem ret_bool {a b : Bool} (h : a = b) : Ending.returned (.bool a) = .returned (.bool b) := by rw [h]

/-- Words from the place k on, the least first: which of the two numbers is less. -/
def above (xs : List Nat) (k : Nat) : List Nat := xs.drop k

theorem wval_drop {xs : List Nat} {k : Nat} (hk : k < xs.length) : wval (xs.drop k) = gx xs k + 18446744073709551616 * wval (xs.drop (k + 1)) := by
  rw [List.drop_eq_getElem_cons hk, wval]
  simp [gx, List.getD_eq_getElem?_getD, hk]

theorem wval_tail_lt {xs : List Nat} {k : Nat} (h : ∀ x ∈ xs, x < 18446744073709551616) : wval (xs.take k) < 18446744073709551616 ^ (xs.take k).length :=
  by
    have hw : ∀ l : List Nat, (∀ x ∈ l, x < 18446744073709551616) → wval l < 18446744073709551616 ^ l.length := by
      intro l
      induction l with
      | nil => intro _; simp [wval]
      | cons x r ih =>
        intro h
        have h1 := ih (fun y hy => h y (List.mem_cons_of_mem _ hy))
        have hx := h x List.mem_cons_self
        rw [wval, List.length_cons, Nat.pow_succ, Nat.mul_comm (_ ^ _)]
        omega
    exact hw _ (fun x hx => h x (List.mem_of_mem_take hx))

/-- The words above are the same, this one is less (or more): so is the number. -/
theorem less_at {xs ys : List Nat} {k len : Nat} (hx : xs.length = len) (hy : ys.length = len) (hk : k < len) (wx : ∀ x ∈ xs, x < 18446744073709551616) (wy : ∀ x ∈ ys, x < 18446744073709551616)
    (h : xs.drop (k + 1) = ys.drop (k + 1)) (ne : gx xs k ≠ gx ys k) : decide (wval xs < wval ys) = decide (gx xs k < gx ys k) := by
  have e1 : wval xs = wval (xs.take k) + 18446744073709551616 ^ k * wval (xs.drop k) := by
    have := wval_app (xs.take k) (xs.drop k)
    rw [List.take_append_drop, List.length_take, Nat.min_eq_left (by omega)] at this
    exact this
  have e2 : wval ys = wval (ys.take k) + 18446744073709551616 ^ k * wval (ys.drop k) := by
    have := wval_app (ys.take k) (ys.drop k)
    rw [List.take_append_drop, List.length_take, Nat.min_eq_left (by omega)] at this
    exact this
  have l1 := wval_tail_lt (k := k) wx
  have l2 := wval_tail_lt (k := k) wy
  rw [List.length_take, Nat.min_eq_left (by omega)] at l1 l2
  rw [wval_drop (xs := xs) (k := k) (by omega), h] at e1
  rw [wval_drop (xs := ys) (k := k) (by omega)] at e2
  generalize wval (ys.drop (k + 1)) = r at *
  generalize 18446744073709551616 ^ k = P at *
  generalize wval (xs.take k) = a at *
  generalize wval (ys.take k) = b at *
  generalize gx xs k = x at *
  generalize gx ys k = y at *
  rw [Nat.mul_add] at e1 e2
  rw [decide_eq_decide, e1, e2]
  constructor
  · intro hlt
    rcases Nat.lt_or_ge x y with h1 | h1
    · exact h1
    · exfalso
      have : P * (y + 1) ≤ P * x := Nat.mul_le_mul_left P (by omega)
      rw [Nat.mul_add] at this
      omega
  · intro hlt
    have : P * (x + 1) ≤ P * y := Nat.mul_le_mul_left P hlt
    rw [Nat.mul_add] at this
    omega

theorem drop_step (xs ys : List Nat) {k len : Nat} (hx : xs.length = len) (hy : ys.length = len) (hk : k < len) (h : xs.drop (k + 1) = ys.drop (k + 1)) (e : gx xs k = gx ys k) : xs.drop k = ys.drop k := by
  rw [List.drop_eq_getElem_cons (l := xs) (i := k) (by omega), List.drop_eq_getElem_cons (l := ys) (i := k) (by omega), h]
  simp [gx, List.getD_eq_getElem?_getD, hx, hy, hk] at e
  rw [e]

theorem same_any (xs ys : List Nat) (bx by_ tx ty len : Nat) (w : World) (hlx : xs.length = len) (hly : ys.length = len) (hn : len < 65536)
    (hx : w.heap[bx]? = some (.cells (rowOf false xs) tx (0, 0))) (hy : w.heap[by_]? = some (.cells (rowOf false ys) ty (0, 0))) :
    Calls Try.prog 12 #[sl bx len, sl by_ len] w (QB w (decide (xs = ys))) := by
  have HX' : ∀ k, k < len → w.cell? ⟨bx, k, none⟩ = some (.int .u64 ((gx xs k : Nat) : Int)) := fun k hk => cell_word hx (by omega)
  have HY' : ∀ k, k < len → w.cell? ⟨by_, k, none⟩ = some (.int .u64 ((gx ys k : Nat) : Int)) := fun k hk => cell_word hy (by omega)
  have HX := Lib.hid HX'
  have HY := Lib.hid HY'
  have HLX := Lib.hid hlx
  have HLY := Lib.hid hly
  clear hx hy HX' HY' hlx hly
  unfold sl
  go_enter Try.func12, Try.ntmps12
  go_wp2
  go_loopw [5] (fun i wr => ∃ k n : Nat, k ≤ len ∧ i = .int .i64 k ∧ Hid (xs.take k = ys.take k) ∧ wr = w.drewN n) (fun i _ => len - (intOf i).toNat)
  case atStart => exact ⟨0, 0, Nat.zero_le _, rfl, Lib.hid rfl, rfl⟩
  case round => 
    obtain ⟨k, n, hk, rfl, ht, rfl⟩ := hrel
    by_cases hlt : k < len
    · have hxk := HX.out k hlt
      have hyk := HY.out k hlt
      go_wp2
      go_quiet (fail)
      by_cases e : gx xs k = gx ys k
      · have hb : (((gx xs k : Nat) : Int) != ((gx ys k : Nat) : Int)) = false := by rw [e]; simp
        have E := Lib.hid e
        clear e
        go_wp2
        go_roundw
        case rel => exact ⟨k + 1, n + nq, by omega, by go_num, Lib.hid (take_step xs ys HLX.out HLY.out hlt ht.out E.out), rfl⟩
        case measure => simp [intOf]; omega
      · have hb : (((gx xs k : Nat) : Int) != ((gx ys k : Nat) : Int)) = true := by simp; omega
        have HF := Lib.hid (ne_of_gx e)
        clear e
        go_wp2
        go_ret
        exact ⟨ret_bool HF.out.symm, _, drewN_add _ _ _⟩
    · go_wp2
      go_ret
      refine ⟨?_, _, rfl⟩
      have h1 := ht.out
      rw [List.take_of_length_le (by have := HLX.out; omega), List.take_of_length_le (by have := HLY.out; omega)] at h1
      exact ret_bool (decide_eq_true h1).symm

theorem less_any (xs ys : List Nat) (bx by_ tx ty len : Nat) (w : World) (hlx : xs.length = len) (hly : ys.length = len) (hn : len < 65536) (wx : ∀ x ∈ xs, x < 18446744073709551616) (wy : ∀ x ∈ ys, x < 18446744073709551616)
    (hx : w.heap[bx]? = some (.cells (rowOf false xs) tx (0, 0))) (hy : w.heap[by_]? = some (.cells (rowOf false ys) ty (0, 0))) :
    Calls Try.prog 9 #[sl bx len, sl by_ len] w (QB w (decide (wval xs < wval ys))) := by
  have HX' : ∀ k, k < len → w.cell? ⟨bx, k, none⟩ = some (.int .u64 ((gx xs k : Nat) : Int)) := fun k hk => cell_word hx (by omega)
  have HY' : ∀ k, k < len → w.cell? ⟨by_, k, none⟩ = some (.int .u64 ((gx ys k : Nat) : Int)) := fun k hk => cell_word hy (by omega)
  have HX := Lib.hid HX'
  have HY := Lib.hid HY'
  have HLX := Lib.hid hlx
  have HLY := Lib.hid hly
  have HWX := Lib.hid wx
  have HWY := Lib.hid wy
  clear hx hy HX' HY' hlx hly wx wy
  unfold sl
  go_enter Try.func9, Try.ntmps9
  go_wp2
  go_loopw [5] (fun i wr => ∃ k n : Nat, k ≤ len ∧ i = .int .i64 ((k : Int) - 1) ∧ Hid (xs.drop k = ys.drop k) ∧ wr = w.drewN n) (fun i _ => (intOf i + 1).toNat)
  case atStart => exact ⟨len, 0, Nat.le_refl _, rfl, Lib.hid ((List.drop_of_length_le (Nat.le_of_eq HLX.out)).trans (List.drop_of_length_le (Nat.le_of_eq HLY.out)).symm), rfl⟩
  case round => 
    obtain ⟨k, n, hk, rfl, ht, rfl⟩ := hrel
    cases k with
    | zero =>
      have hxx := Lib.hid (show xs = ys by simpa using ht.out)
      clear ht
      go_wp2
      go_ret
      refine ⟨?_, _, rfl⟩
      exact ret_bool (by rw [hxx.out]; simp)
    | succ k =>
      rw [show ((k + 1 : Nat) : Int) - 1 = (k : Int) by omega] at *
      have hlt : k < len := hk
      have hxk := HX.out k hlt
      have hyk := HY.out k hlt
      go_wp2
      go_quiet (fail)
      by_cases e : gx xs k = gx ys k
      · have hb : (((gx xs k : Nat) : Int) != ((gx ys k : Nat) : Int)) = false := by rw [e]; simp
        have E := Lib.hid e
        clear e
        go_wp2
        go_roundw
        case rel => exact ⟨k, n + nq, by omega, rfl, Lib.hid (drop_step xs ys HLX.out HLY.out hlt ht.out E.out), rfl⟩
        case measure => simp [intOf]
      · have hb : (((gx xs k : Nat) : Int) != ((gx ys k : Nat) : Int)) = true := by simp; omega
        have HF := Lib.hid (less_at HLX.out HLY.out hlt HWX.out HWY.out ht.out e)
        clear e
        go_wp2
        go_quiet (fail)
        go_wp2
        go_ret
        refine ⟨?_, _, (drewN_add _ _ _).trans (drewN_add _ _ _)⟩
        exact ret_bool HF.out.symm
end Go.Fiat

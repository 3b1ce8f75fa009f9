/- Words, the least first: adding and taking away word for word, in plain Lean. -/
import Derived.Test.YtcpnimnilojooaaSy5
namespace Go.Fiat
open Go

def gx (xs : List Nat) (k : Nat) : Nat := xs.getD k 0

theorem gx_get {xs : List Nat} {k : Nat} (hk : k < xs.length) : gx xs k = xs[k] := by simp [gx, List.getD_eq_getElem?_getD, hk]

theorem gx_lt {xs : List Nat} {k b : Nat} (h : ∀ x ∈ xs, x < b) (hk : k < xs.length) : gx xs k < b := by
  rw [gx_get hk]; exact h _ (List.getElem_mem hk)

theorem wval_app : ∀ (l m : List Nat), wval (l ++ m) = wval l + 18446744073709551616 ^ l.length * wval m
  | [], m => by simp [wval]
  | x :: r, m => by
    rw [List.cons_append, wval, wval_app r m, wval, List.length_cons, Nat.pow_succ, Nat.mul_add, ← Nat.mul_assoc, Nat.mul_comm (_ ^ _) 18446744073709551616]
    omega

theorem wval_bound : ∀ l : List Nat, (∀ x ∈ l, x < 18446744073709551616) → wval l < 18446744073709551616 ^ l.length
  | [], _ => by simp [wval]
  | x :: r, h => by
    have ih := wval_bound r (fun y hy => h y (List.mem_cons_of_mem _ hy))
    have hx := h x List.mem_cons_self
    rw [wval, List.length_cons, Nat.pow_succ, Nat.mul_comm (_ ^ _)]
    omega

theorem wval_take_succ {xs : List Nat} {k : Nat} (hk : k < xs.length) : wval (xs.take (k + 1)) = wval (xs.take k) + 18446744073709551616 ^ k * gx xs k := by
  rw [List.take_succ_eq_append_getElem hk, wval_app, List.length_take, Nat.min_eq_left (Nat.le_of_lt hk), gx_get hk]
  simp [wval]

theorem wval_take_set {os : List Nat} {k z : Nat} (hk : k < os.length) : wval ((os.set k z).take (k + 1)) = wval (os.take k) + 18446744073709551616 ^ k * z := by
  rw [wval_take_succ (by simpa using hk), gx_get (by simpa using hk)]
  simp [List.take_set_of_le]

/-- What has been added so far: k words, and what is carried. -/
structure PlusK (as bs os : List Nat) (len k c : Nat) : Prop where
  size : os.length = len
  words : ∀ x ∈ os, x < 18446744073709551616
  one : c ≤ 1
  sum : wval (os.take k) + 18446744073709551616 ^ k * c = wval (as.take k) + wval (bs.take k)

theorem mem_set_lt {os : List Nat} {k z b : Nat} (h : ∀ x ∈ os, x < b) (hz : z < b) : ∀ x ∈ os.set k z, x < b := by
  intro x hx
  rcases List.mem_or_eq_of_mem_set hx with h1 | h1
  · exact h x h1
  · rw [h1]; exact hz

theorem PlusK.step {as bs os : List Nat} {len k c a b x z c' : Nat} (h : PlusK as bs os len k c) (hk : k < len) (hla : as.length = len) (hlb : bs.length = len) (wa : ∀ x ∈ as, x < 18446744073709551616) (wb : ∀ x ∈ bs, x < 18446744073709551616)
    (ha : a = gx as k) (hb : b = gx bs k) (hx : x = (a + c) % 18446744073709551616) (hz : z = (x + b) % 18446744073709551616) (hc' : c' = if x < c ∨ z < x then 1 else 0) : PlusK as bs (os.set k z) len (k + 1) c' := by
  have h0 := h.sum
  have h1 := h.one
  have la : a < 18446744073709551616 := by rw [ha]; exact gx_lt wa (by omega)
  have lb : b < 18446744073709551616 := by rw [hb]; exact gx_lt wb (by omega)
  have key : z + 18446744073709551616 * c' = a + b + c := by
    subst hc'
    split <;> omega
  refine ⟨by simp [h.size], mem_set_lt h.words (by omega), by rw [hc']; split <;> omega, ?_⟩
  rw [wval_take_set (by rw [h.size]; exact hk), wval_take_succ (by omega), wval_take_succ (by omega), ← ha, ← hb, Nat.pow_succ, Nat.mul_assoc]
  generalize 18446744073709551616 ^ k = P at *
  have key2 : P * z + P * (18446744073709551616 * c') = P * a + P * b + P * c := by
    rw [← Nat.mul_add, key, Nat.mul_add, Nat.mul_add]
  omega

/-- What has been taken away so far: k words, and what is owed. -/
structure LessK (as bs os : List Nat) (len k c : Nat) : Prop where
  size : os.length = len
  words : ∀ x ∈ os, x < 18446744073709551616
  one : c ≤ 1
  sum : wval (os.take k) + wval (bs.take k) = wval (as.take k) + 18446744073709551616 ^ k * c

theorem LessK.step {as bs os : List Nat} {len k c a b x z c' : Nat} (h : LessK as bs os len k c) (hk : k < len) (hla : as.length = len) (hlb : bs.length = len) (wa : ∀ x ∈ as, x < 18446744073709551616) (wb : ∀ x ∈ bs, x < 18446744073709551616)
    (ha : a = gx as k) (hb : b = gx bs k) (hx : x = (a + 18446744073709551616 - c) % 18446744073709551616) (hz : z = (x + 18446744073709551616 - b) % 18446744073709551616) (hc' : c' = if a < c ∨ x < b then 1 else 0) : LessK as bs (os.set k z) len (k + 1) c' := by
  have h0 := h.sum
  have h1 := h.one
  have la : a < 18446744073709551616 := by rw [ha]; exact gx_lt wa (by omega)
  have lb : b < 18446744073709551616 := by rw [hb]; exact gx_lt wb (by omega)
  have key : z + b + c = a + 18446744073709551616 * c' := by
    subst hc'
    split <;> omega
  refine ⟨by simp [h.size], mem_set_lt h.words (by omega), by rw [hc']; split <;> omega, ?_⟩
  rw [wval_take_set (by rw [h.size]; exact hk), wval_take_succ (by omega), wval_take_succ (by omega), ← ha, ← hb, Nat.pow_succ, Nat.mul_assoc]
  generalize 18446744073709551616 ^ k = P at *
  have key2 : P * z + P * b + P * c = P * a + P * (18446744073709551616 * c') := by
    rw [← Nat.mul_add, ← Nat.mul_add, key, Nat.mul_add]
  omega

theorem PlusK.zero (as bs : List Nat) (len : Nat) : PlusK as bs (List.replicate len 0) len 0 0 :=
  ⟨by simp, fun x hx => by rw [List.eq_of_mem_replicate hx]; decide, by omega, by simp [wval]⟩
theorem LessK.zero (as bs : List Nat) (len : Nat) : LessK as bs (List.replicate len 0) len 0 0 :=
  ⟨by simp, fun x hx => by rw [List.eq_of_mem_replicate hx]; decide, by omega, by simp [wval]⟩

theorem PlusK.done {as bs os : List Nat} {len c : Nat} (h : PlusK as bs os len len c) (hla : as.length = len) (hlb : bs.length = len) : wval os + 18446744073709551616 ^ len * c = wval as + wval bs := by
  have := h.sum
  rwa [List.take_of_length_le (by rw [h.size]; exact Nat.le_refl _), List.take_of_length_le (by omega), List.take_of_length_le (by omega)] at this
theorem LessK.done {as bs os : List Nat} {len c : Nat} (h : LessK as bs os len len c) (hla : as.length = len) (hlb : bs.length = len) : wval os + wval bs = wval as + 18446744073709551616 ^ len * c := by
  have := h.sum
  rwa [List.take_of_length_le (by rw [h.size]; exact Nat.le_refl _), List.take_of_length_le (by omega), List.take_of_length_le (by omega)] at this

theorem wval_inj' : ∀ (l m : List Nat), l.length = m.length → (∀ x ∈ l, x < 18446744073709551616) → (∀ x ∈ m, x < 18446744073709551616) → wval l = wval m → l = m
  | [], [], _, _, _, _ => rfl
  | [], _ :: _, h, _, _, _ => by simp at h
  | _ :: _, [], h, _, _, _ => by simp at h
  | x :: r, y :: s, h, hl, hm, e => by
    rw [wval, wval] at e
    have hx := hl x List.mem_cons_self
    have hy := hm y List.mem_cons_self
    have h1 : x = y := by omega
    have h2 : wval r = wval s := by omega
    rw [h1, wval_inj' r s (by simpa using h) (fun z hz => hl z (List.mem_cons_of_mem _ hz)) (fun z hz => hm z (List.mem_cons_of_mem _ hz)) h2]

end Go.Fiat

/- The walks of AddWords, Shifted, MulWords, OneWords. -/
import Derived.Test.YtcpnimnilojooaaX3
namespace Go.Fiat
open Go Go.Proofs Go.RowKit

/-- A row of words lies in the world. -/
structure Row' (w : World) (xs : List Nat) (b len t : Nat) : Prop where
  size : xs.length = len
  words : ∀ x ∈ xs, x < 18446744073709551616
  held : w.heap[b]? = some (.cells (rowOf false xs) t (0, 0))

theorem Row'.lt {w : World} {xs : List Nat} {b len t : Nat} (h : Row' w xs b len t) : b < w.heap.size := (Array.getElem?_eq_some_iff.1 h.held).1

theorem Row'.keep {w w' : World} {xs : List Nat} {b len t : Nat} (h : Row' w xs b len t) (K : Keeps w w') : Row' w' xs b len t :=
  ⟨h.size, h.words, by rw [K.block b h.lt]; exact h.held⟩

theorem Row'.bound {w : World} {xs : List Nat} {b len t : Nat} (h : Row' w xs b len t) : wval xs < 18446744073709551616 ^ len := by
  rw [← h.size]; exact wval_bound xs h.words

/-- A new row and this truth value come back. -/
def GPb (w : World) (n : Nat) (b : Bool) (R : Nat → Prop) (e : Ending) (w' : World) : Prop :=
  ∃ os, e = .returned (.tuple #[sl w.heap.size n, .bool b]) ∧ Hid (Keeps w w' ∧ Row' w' os w.heap.size n 22 ∧ R (wval os))

/-- A row of this number comes back, in a new block. -/
def GR (w : World) (n v : Nat) (e : Ending) (w' : World) : Prop :=
  ∃ b os, e = .returned (sl b n) ∧ Hid (Keeps w w' ∧ Row' w' os b n 22 ∧ wval os = v ∧ w.heap.size ≤ b)

section
variable {xs ys ms : List Nat} {bx by_ bm len tx ty tm : Nat} {w : World}

theorem plus_over (X : Row' w xs bx len tx) (Y : Row' w ys by_ len ty) (hn : len < 65536) (h : 18446744073709551616 ^ len ≤ wval xs + wval ys) :
    Calls Try.prog 29 #[sl bx len, sl by_ len] w (GPb w len true fun v => v + 18446744073709551616 ^ len = wval xs + wval ys) := by
  have hx := X.held
  have hy := Y.held
  refine (plus_any xs ys bx by_ tx ty len w X.size Y.size hn X.words Y.words hx hy).mono fun e w' ⟨os, r, he, h1, h2, h3, h4, h5⟩ => ?_
  have hb : Row' w' os w.heap.size len 22 := ⟨h3, h4, h2⟩
  have := hb.bound
  cases r with
  | true => exact ⟨os, he, Lib.hid ⟨h1, hb, by simpa using h5⟩⟩
  | false => simp at h5; omega

theorem plus_fit (X : Row' w xs bx len tx) (Y : Row' w ys by_ len ty) (hn : len < 65536) (h : wval xs + wval ys < 18446744073709551616 ^ len) :
    Calls Try.prog 29 #[sl bx len, sl by_ len] w (GPb w len false fun v => v = wval xs + wval ys) := by
  have hx := X.held
  have hy := Y.held
  refine (plus_any xs ys bx by_ tx ty len w X.size Y.size hn X.words Y.words hx hy).mono fun e w' ⟨os, r, he, h1, h2, h3, h4, h5⟩ => ?_
  have hb : Row' w' os w.heap.size len 22 := ⟨h3, h4, h2⟩
  cases r with
  | false => exact ⟨os, he, Lib.hid ⟨h1, hb, by simpa using h5⟩⟩
  | true => simp at h5; omega

/-- Taken away: whatever is owed. -/
theorem lessen_row (X : Row' w xs bx len tx) (Y : Row' w ys by_ len ty) (hn : len < 65536) (b : Bool) (h : wval xs < wval ys ↔ b = true) :
    Calls Try.prog 30 #[sl bx len, sl by_ len] w (GPb w len b fun v => v + wval ys = wval xs + 18446744073709551616 ^ len * (if b = true then 1 else 0)) := by
  have hx := X.held
  have hy := Y.held
  refine (lessen_any xs ys bx by_ tx ty len w X.size Y.size hn X.words Y.words hx hy).mono fun e w' ⟨os, r, he, h1, h2, h3, h4, h5⟩ => ?_
  have hb : Row' w' os w.heap.size len 22 := ⟨h3, h4, h2⟩
  have hb1 := hb.bound
  have hb2 := Y.bound
  have hrb : r = b := by
    cases r <;> cases b <;> simp at h h5 ⊢ <;> omega
  subst hrb
  exact ⟨os, he, Lib.hid ⟨h1, hb, h5⟩⟩

theorem less_is (X : Row' w xs bx len tx) (M : Row' w ms bm len tm) (hn : len < 65536) (b : Bool) (h : decide (wval xs < wval ms) = b) :
    Calls Try.prog 9 #[sl bx len, sl bm len] w (QB w b) := by
  have hx := X.held
  have hm := M.held
  rw [← h]
  exact less_any xs ms bx bm tx tm len w X.size M.size hn X.words M.words hx hm

theorem mod_once {s p : Nat} (h1 : p ≤ s) (h2 : s < 2 * p) : s % p = s - p := by
  rw [Nat.mod_eq_sub_mod h1, Nat.mod_eq_of_lt (by omega)]

theorem quiet_keeps {w w' : World} {n : Nat} (h : w' = w.drewN n) : Keeps w w' := by
  subst h; exact ⟨rfl, rfl, rfl, Nat.le_refl _, fun _ _ => rfl, fun _ => rfl⟩

theorem add_any (X : Row' w xs bx len tx) (Y : Row' w ys by_ len ty) (M : Row' w ms bm len tm) (hn : len < 65536) (px : wval xs < wval ms) (py : wval ys < wval ms) :
    Calls Try.prog 22 #[sl bx len, sl by_ len, sl bm len] w (GR w len ((wval xs + wval ys) % wval ms)) := by
  have hM := M.bound
  rcases Nat.lt_or_ge (wval xs + wval ys) (18446744073709551616 ^ len) with h | h
  · rcases Nat.lt_or_ge (wval xs + wval ys) (wval ms) with h2 | h2
    · have HX := Lib.hid X
      have HY := Lib.hid Y
      have HM := Lib.hid M
      have H1 := Lib.hid h
      have H2 := Lib.hid h2
      have HP := Lib.hid (show (wval xs + wval ys) % wval ms = wval xs + wval ys from Nat.mod_eq_of_lt h2)
      clear X Y M h h2 px py hM
      go_enter Try.func22, Try.ntmps22
      go_wp2_with fail
      go_at_call 29
      refine (plus_fit HX.out HY.out hn H1.out).mono ?_
      rintro e w1 ⟨os, rfl, h1⟩
      go_wp2_with fail
      go_at_call 9
      refine (less_is (b := true) h1.out.2.1 (HM.out.keep h1.out.1) hn (by rw [h1.out.2.2]; exact decide_eq_true H2.out)).mono ?_
      rintro e w2 ⟨rfl, h3⟩
      have H3 := Lib.hid h3
      clear h3
      go_wp2
      go_ret
      obtain ⟨nn, hnn⟩ := H3.out
      have hk := quiet_keeps hnn
      exact ⟨w.heap.size, os, rfl, Lib.hid ⟨h1.out.1.trans hk, h1.out.2.1.keep hk, by rw [HP.out]; exact h1.out.2.2, Nat.le_refl _⟩⟩
    · have HX := Lib.hid X
      have HY := Lib.hid Y
      have HM := Lib.hid M
      have H1 := Lib.hid h
      have H2 := Lib.hid h2
      have HP := Lib.hid (mod_once h2 (by omega))
      clear X Y M h h2 px py hM
      go_enter Try.func22, Try.ntmps22
      go_wp2_with fail
      go_at_call 29
      refine (plus_fit HX.out HY.out hn H1.out).mono ?_
      rintro e w1 ⟨os, rfl, h1⟩
      go_wp2_with fail
      go_at_call 9
      refine (less_is (b := false) h1.out.2.1 (HM.out.keep h1.out.1) hn (by rw [h1.out.2.2, decide_eq_false_iff_not]; have := H2.out; omega)).mono ?_
      rintro e w2 ⟨rfl, h3⟩
      have H3 := Lib.hid h3
      clear h3
      go_wp2_with fail
      go_at_call 30
      refine (lessen_row (b := false) (h1.out.2.1.keep (quiet_keeps H3.out.choose_spec)) ((HM.out.keep h1.out.1).keep (quiet_keeps H3.out.choose_spec)) hn (by rw [h1.out.2.2]; have := H2.out; simp; omega)).mono ?_
      rintro e w3 ⟨os2, rfl, h4⟩
      go_wp2
      go_ret
      have hk := quiet_keeps H3.out.choose_spec
      refine ⟨_, os2, rfl, Lib.hid ⟨(h1.out.1.trans hk).trans h4.out.1, h4.out.2.1, ?_, Nat.le_trans h1.out.1.size hk.size⟩⟩
      have h5 := h4.out.2.2
      have h6 := h1.out.2.2
      simp at h5
      rw [HP.out]; omega
  · have HX := Lib.hid X
    have HY := Lib.hid Y
    have HM := Lib.hid M
    have H1 := Lib.hid h
    have HP := Lib.hid (mod_once (p := wval ms) (by omega) (by omega) : (wval xs + wval ys) % wval ms = wval xs + wval ys - wval ms)
    have HL := Lib.hid (show wval xs + wval ys < wval ms + 18446744073709551616 ^ len by omega)
    have HM2 := Lib.hid hM
    clear X Y M h px py hM
    go_enter Try.func22, Try.ntmps22
    go_wp2_with fail
    go_at_call 29
    refine (plus_over HX.out HY.out hn H1.out).mono ?_
    rintro e w1 ⟨os, rfl, h1⟩
    go_wp2_with fail
    go_at_call 30
    refine (lessen_row (b := true) h1.out.2.1 (HM.out.keep h1.out.1) hn (by have := h1.out.2.2; have := HL.out; simp; omega)).mono ?_
    rintro e w3 ⟨os2, rfl, h4⟩
    go_wp2
    go_ret
    refine ⟨_, os2, rfl, Lib.hid ⟨h1.out.1.trans h4.out.1, h4.out.2.1, ?_, h1.out.1.size⟩⟩
    have h5 := h4.out.2.2
    have h6 := h1.out.2.2
    simp at h5
    rw [HP.out]; omega

theorem pow_step (a k p : Nat) : (a * 2 ^ k % p + a * 2 ^ k % p) % p = a * 2 ^ (k + 1) % p := by
  rw [← Nat.add_mod, Nat.pow_succ, ← Nat.mul_assoc, Nat.mul_two]

theorem shifted_any (X : Row' w xs bx len tx) (M : Row' w ms bm len tm) (h0 : 0 < len) (hn : len < 65536) (px : wval xs < wval ms) :
    Calls Try.prog 13 #[sl bx len, sl bm len] w (GR w len (wval xs * 18446744073709551616 ^ len % wval ms)) := by
  have HX := Lib.hid X
  have HM := Lib.hid M
  have HPX := Lib.hid px
  clear X M px
  go_enter Try.func13, Try.ntmps13
  go_wp2
  go_loopw [0, 5] (fun v i wr => ∃ k b t : Nat, ∃ os : List Nat, k ≤ 64 * len ∧ i = .int .i64 k ∧ v = sl b len ∧ Hid (Keeps w wr ∧ Row' wr os b len t ∧ wval os = wval xs * 2 ^ k % wval ms ∧ (0 < k → w.heap.size ≤ b ∧ t = 22))) (fun _ i _ => 64 * len - (intOf i).toNat)
  case atStart => exact ⟨0, bx, tx, xs, Nat.zero_le _, rfl, rfl, Lib.hid ⟨Keeps.refl w, HX.out, by rw [Nat.pow_zero, Nat.mul_one, Nat.mod_eq_of_lt HPX.out], fun h => absurd h (Nat.lt_irrefl 0)⟩⟩
  case round =>
    obtain ⟨k, b, t, os, hk, rfl, rfl, ht⟩ := hrel
    have hpos := Lib.hid (show 0 < wval ms by have := HPX.out; omega)
    by_cases hlt : k < 64 * len
    · unfold sl
      go_wp2_with fail
      go_at_call 22
      refine (add_any (len := len) ht.out.2.1 ht.out.2.1 (HM.out.keep ht.out.1) hn (by rw [ht.out.2.2.1]; exact Nat.mod_lt _ hpos.out) (by rw [ht.out.2.2.1]; exact Nat.mod_lt _ hpos.out)).mono ?_
      rintro e w1 ⟨b2, os2, rfl, h1⟩
      unfold sl
      go_wp2
      go_roundw
      case rel =>
        refine ⟨k + 1, b2, _, os2, by omega, by go_num, rfl, Lib.hid ⟨ht.out.1.trans h1.out.1, h1.out.2.1, ?_, fun _ => ⟨Nat.le_trans ht.out.1.size h1.out.2.2.2, rfl⟩⟩⟩
        rw [h1.out.2.2.1, ht.out.2.2.1, pow_step]
      case measure => simp [intOf]; omega
    · unfold sl
      go_wp2
      go_ret
      have hkl : k = 64 * len := by omega
      obtain ⟨hb1, hb2⟩ := ht.out.2.2.2 (by omega)
      refine ⟨b, os, rfl, Lib.hid ⟨ht.out.1, by rw [← hb2]; exact ht.out.2.1, ?_, hb1⟩⟩
      rw [ht.out.2.2.1, hkl, Nat.pow_mul]

end

end Go.Fiat

/- The walks of MulWords, OneWords and of the prime's words; all as the executor asks for them. -/
import Derived.Test.YtcpnimnilojooaaX4
namespace Go.Fiat
open Go Go.Proofs Go.RowKit

theorem wval_zeros : ∀ n : Nat, wval (List.replicate n 0) = 0
  | 0 => rfl
  | n + 1 => by rw [List.replicate_succ, wval, wval_zeros n]

/-- A word out of a number. -/
theorem gx_word {ys : List Nat} {q : Nat} (hq : q < ys.length) (wy : ∀ x ∈ ys, x < 18446744073709551616) : gx ys q = wval ys / 18446744073709551616 ^ q % 18446744073709551616 := by
  have e : wval ys = wval (ys.take q) + 18446744073709551616 ^ q * wval (ys.drop q) := by
    have := wval_app (ys.take q) (ys.drop q)
    rw [List.take_append_drop, List.length_take, Nat.min_eq_left (by omega)] at this
    exact this
  have hl := wval_bound (ys.take q) (fun x hx => wy x (List.mem_of_mem_take hx))
  rw [List.length_take, Nat.min_eq_left (by omega)] at hl
  have hg := gx_lt wy hq
  rw [e, Nat.add_mul_div_left _ _ (Nat.pow_pos (by omega)), Nat.div_eq_of_lt hl, Nat.zero_add, List.drop_eq_getElem_cons hq, wval, ← gx_get hq]
  omega

/-- A bit out of a number. -/
theorem bit_word {ys : List Nat} {i q r : Nat} (hq : q = i / 64) (hr : r = i % 64) (hi : q < ys.length) (wy : ∀ x ∈ ys, x < 18446744073709551616) : gx ys q / 2 ^ r % 2 = wval ys / 2 ^ i % 2 := by
  rw [gx_word hi wy]
  generalize wval ys = v
  have e1 : (18446744073709551616 : Nat) ^ q = 2 ^ (64 * q) := by
    rw [show (18446744073709551616 : Nat) = 2 ^ 64 by rfl, ← Nat.pow_mul]
  have e2 : 2 ^ i = 2 ^ (64 * q) * 2 ^ r := by rw [← Nat.pow_add]; congr 1; omega
  rw [e1, e2, ← Nat.div_div_eq_div_mul]
  generalize v / 2 ^ (64 * q) = u
  have hr64 : r < 64 := by omega
  have e3 : (18446744073709551616 : Nat) = 2 ^ r * 2 ^ (64 - r) := by rw [← Nat.pow_add, show r + (64 - r) = 64 by omega]
  rw [e3, Nat.mod_mul_right_div_self, show 64 - r = (63 - r) + 1 by omega, Nat.pow_succ, Nat.mod_mul_left_mod]

theorem half_step (v i : Nat) : v / 2 ^ i = 2 * (v / 2 ^ (i + 1)) + v / 2 ^ i % 2 := by
  rw [Nat.pow_succ, ← Nat.div_div_eq_div_mul]; omega

theorem dbl_one (a c p : Nat) : (a * c % p + a * c % p) % p = a * (2 * c) % p := by
  rw [← Nat.add_mod]; congr 1; rw [Nat.mul_left_comm]; omega
theorem add_one' (a c p : Nat) : (a * c % p + a) % p = a * (c + 1) % p := by
  rw [Nat.mul_add, Nat.mul_one, Nat.add_mod (a * c) a p, Nat.add_mod (a * c % p) a p, Nat.mod_mod]

section
variable {xs ys ms : List Nat} {bx by_ bm len tx ty tm : Nat} {w : World}

theorem mul_any (X : Row' w xs bx len tx) (Y : Row' w ys by_ len ty) (M : Row' w ms bm len tm) (hn : len < 65536) (px : wval xs < wval ms) :
    Calls Try.prog 14 #[sl bx len, sl by_ len, sl bm len] w (GR w len (wval xs * wval ys % wval ms)) := by
  have HX := Lib.hid X
  have HY := Lib.hid Y
  have HM := Lib.hid M
  have HPX := Lib.hid px
  have hmk := make_words len hn w
  clear X Y M px
  unfold sl
  go_enter Try.func14, Try.ntmps14
  go_wp2
  go_loopw [7, 8] (fun v i wr => ∃ k b : Nat, ∃ os : List Nat, k ≤ 64 * len ∧ i = .int .i64 ((k : Int) - 1) ∧ v = sl b len ∧ Hid (Keeps w wr ∧ Row' wr os b len 22 ∧ wval os = wval xs * (wval ys / 2 ^ k) % wval ms ∧ w.heap.size ≤ b)) (fun _ i _ => (intOf i + 1).toNat)
  case atStart =>
    refine ⟨64 * len, w.heap.size, List.replicate len 0, Nat.le_refl _, ?_, rfl, Lib.hid ⟨Keeps.alloc _ _ _, ⟨by simp, fun x hx => by rw [List.eq_of_mem_replicate hx]; decide, heap_new _ _⟩, ?_, Nat.le_refl _⟩⟩
    · go_num
    · have h := HY.out.bound
      rw [show (18446744073709551616 : Nat) = 2 ^ 64 by rfl, ← Nat.pow_mul] at h
      rw [wval_zeros, Nat.div_eq_of_lt h, Nat.mul_zero, Nat.zero_mod]
  case round =>
    obtain ⟨k, b, os, hk, rfl, rfl, ht⟩ := hrel
    have hpos := Lib.hid (show 0 < wval ms by have := HPX.out; omega)
    cases k with
    | zero =>
      unfold sl
      go_wp2
      go_ret
      refine ⟨b, os, rfl, Lib.hid ⟨ht.out.1, ht.out.2.1, ?_, ht.out.2.2.2⟩⟩
      rw [ht.out.2.2.1, Nat.pow_zero, Nat.div_one]
    | succ i =>
      rw [show ((i + 1 : Nat) : Int) - 1 = (i : Int) by omega] at *
      unfold sl
      go_wp2_with fail
      go_at_call 22
      refine (add_any (len := len) ht.out.2.1 ht.out.2.1 (HM.out.keep ht.out.1) hn (by rw [ht.out.2.2.1]; exact Nat.mod_lt _ hpos.out) (by rw [ht.out.2.2.1]; exact Nat.mod_lt _ hpos.out)).mono ?_
      rintro e w1 ⟨b2, os2, rfl, h1⟩
      unfold sl
      obtain ⟨q, hq⟩ : ∃ q, q = i / 64 := ⟨_, rfl⟩
      obtain ⟨r, hr⟩ : ∃ r, r = i % 64 := ⟨_, rfl⟩
      obtain ⟨y, hy⟩ : ∃ y, y = gx ys q := ⟨_, rfl⟩
      obtain ⟨z, hz⟩ : ∃ z, z = y / 2 ^ r := ⟨_, rfl⟩
      obtain ⟨t, hT⟩ : ∃ t, t = z % 2 := ⟨_, rfl⟩
      have hqn : q < len := by omega
      have hr64 : r < 64 := by omega
      have HK := Lib.hid (ht.out.1.trans h1.out.1)
      have hyk : w1.cell? ⟨by_, q, none⟩ = some (.int .u64 (y : Int)) := by
        rw [hy]; exact cell_word (HY.out.keep HK.out).held (by rw [HY.out.size]; exact hqn)
      have c1 : IntKind.i64.wrap ((i : Int) / 64) = (q : Int) := by rw [IntKind.wrap_i64]; omega
      have c2 : (i : Int).tmod 64 = (r : Int) := by rw [Int.tmod_eq_emod_of_nonneg (by omega)]; omega
      have c3 : (z : Int).tmod 2 = (t : Int) := by rw [Int.tmod_eq_emod_of_nonneg (by omega)]; omega
      have c4 : ((y : Int) / 2 ^ r).tmod 2 = (t : Int) := by rw [show (y : Int) / 2 ^ r = ((y / 2 ^ r : Nat) : Int) by simp, ← hz]; exact c3
      have HBIT := Lib.hid (show t = wval ys / 2 ^ i % 2 by rw [hT, hz, hy]; exact bit_word hq hr (by rw [HY.out.size]; exact hqn) HY.out.words)
      have ht2 : t < 2 := by omega
      have HQ := Lib.hid hq
      have HR := Lib.hid hr
      clear hq hr hy hz hT c3
      have HV := Lib.hid (show wval os2 = wval xs * (2 * (wval ys / 2 ^ (i + 1))) % wval ms by rw [h1.out.2.2.1, ht.out.2.2.1, dbl_one])
      have hcase : t = 0 ∨ t = 1 := by omega
      clear ht2
      rcases hcase with h01 | h01
      · have HE := Lib.hid (show wval ys / 2 ^ i = 2 * (wval ys / 2 ^ (i + 1)) by have h := half_step (wval ys) i; rw [← HBIT.out] at h; omega)
        have hb : ((t : Int) == 1) = false := by rw [h01]; rfl
        clear h01
        go_wp2
        go_roundw
        case rel => exact ⟨i, b2, os2, by omega, rfl, rfl, Lib.hid ⟨HK.out, h1.out.2.1, by rw [HV.out, HE.out], Nat.le_trans ht.out.1.size h1.out.2.2.2⟩⟩
        case measure => simp [intOf]
      · have HE := Lib.hid (show wval ys / 2 ^ i = 2 * (wval ys / 2 ^ (i + 1)) + 1 by have h := half_step (wval ys) i; rw [← HBIT.out, h01] at h; exact h)
        have hb : ((t : Int) == 1) = true := by rw [h01]; rfl
        clear h01
        go_wp2_with fail
        go_at_call 22
        refine (add_any (len := len) h1.out.2.1 (HX.out.keep HK.out) (HM.out.keep HK.out) hn (by rw [HV.out]; exact Nat.mod_lt _ hpos.out) HPX.out).mono ?_
        rintro e w2 ⟨b3, os3, rfl, h2⟩
        unfold sl
        go_wp2
        go_roundw
        case rel => exact ⟨i, b3, os3, by omega, rfl, rfl, Lib.hid ⟨HK.out.trans h2.out.1, h2.out.2.1, by rw [h2.out.2.2.1, HV.out, HE.out, add_one'], Nat.le_trans HK.out.size h2.out.2.2.2⟩⟩
        case measure => simp [intOf]

end
end Go.Fiat

/- What the fields' functions call: Mul64, Add64, Sub64, the conditional move. -/
import Derived.Test.YtcpnimnilojooaaX4
import Derived.Shelf.Bits.Mul64
import Derived.Shelf.Spec.BitsCarry
namespace Go.Fiat
open Go Go.Proofs Go.RowKit Go.Lib

set_option maxHeartbeats 1000000 in
theorem mul64_any (x y : Nat) (hx : x < 18446744073709551616) (hy : y < 18446744073709551616) (w : World) :
    Calls Try.prog 36 #[.int .u64 x, .int .u64 y] w fun e w' => e = .returned (.tuple #[.int .u64 ((x * y / 18446744073709551616 : Nat) : Int), .int .u64 ((x * y % 18446744073709551616 : Nat) : Int)]) ∧ w' = w := by
  obtain ⟨bd, bt, bw, hhi⟩ := Lib.mul64_hi x y hx hy
  have ba := Lib.half_mul_le (a := x / 4294967296) (b := y / 4294967296) (by omega) (by omega)
  have bb := Lib.half_mul_le (a := x / 4294967296) (b := y % 4294967296) (by omega) (by omega)
  have bc := Lib.half_mul_le (a := x % 4294967296) (b := y / 4294967296) (by omega) (by omega)
  have ba' : x / 4294967296 * (y / 4294967296) < 18446744073709551616 := by omega
  have bb' : x / 4294967296 * (y % 4294967296) < 18446744073709551616 := by omega
  have bc' : x % 4294967296 * (y / 4294967296) < 18446744073709551616 := by omega
  have bh1 : x / 4294967296 * (y / 4294967296) + (x / 4294967296 * (y % 4294967296) + x % 4294967296 * (y % 4294967296) / 4294967296) / 4294967296 < 18446744073709551616 := by omega
  have bh : x / 4294967296 * (y / 4294967296) + (x / 4294967296 * (y % 4294967296) + x % 4294967296 * (y % 4294967296) / 4294967296) / 4294967296 + ((x / 4294967296 * (y % 4294967296) + x % 4294967296 * (y % 4294967296) / 4294967296) % 4294967296 + x % 4294967296 * (y / 4294967296)) / 4294967296 < 18446744073709551616 := by omega
  go_enter Try.func36, Try.ntmps36
  go_wp2
  simp only [Mul64.maskN x hx, Mul64.maskN y hy, Mul64.divN, Mul64.mulN, Mul64.addN, Mul64.wrapN _ bd, Mul64.wrapN _ bb', Mul64.wrapN _ bt, Mul64.maskN _ bt, Mul64.wrapN _ bc', Mul64.wrapN _ bw, Mul64.wrapN _ ba', Mul64.wrapN _ bh1, Mul64.wrapN _ bh, Mul64.wrapM (x * y)]
  rw [hhi]
  go_ret2
  exact ⟨rfl, rfl⟩

theorem mul64_enters (args : Array Value) (w : World) : (callFunc 36 args).run Try.prog w = .ok (.enter 36 args) w := enters_of Try.func36 (by kernel_rfl) rfl args w
theorem cmov_enters (args : Array Value) (w : World) : (callFunc 39 args).run Try.prog w = .ok (.enter 39 args) w := enters_of Try.func39 (by kernel_rfl) rfl args w

theorem add64_run (x y c : Nat) (hc : c ≤ 1) (w : World) :
    (callFunc 37 #[.int .u64 x, .int .u64 y, .int .u64 c]).run Try.prog w =
      .ok (.value (.tuple #[.int .u64 (((x + y + c) % 18446744073709551616 : Nat) : Int), .int .u64 (((x + y + c) / 18446744073709551616 : Nat) : Int)])) w := by
  rw [run_callFunc_extern Try.func37 (by kernel_rfl) (by kernel_rfl) (by kernel_rfl) (e := add64Entry) (by kernel_rfl), run_add64 x y c (by omega) (by omega) (by omega) (by omega)]
  simp only [Result.andThen]
  congr 5 <;> omega

theorem sub64_run (x y b : Nat) (hb : b ≤ 1) (w : World) :
    (callFunc 38 #[.int .u64 x, .int .u64 y, .int .u64 b]).run Try.prog w =
      .ok (.value (.tuple #[.int .u64 (((x + 18446744073709551616 - y - b) % 18446744073709551616 : Nat) : Int), .int .u64 ((if x < y + b then 1 else 0 : Nat) : Int)])) w := by
  rw [run_callFunc_extern Try.func38 (by kernel_rfl) (by kernel_rfl) (by kernel_rfl) (e := sub64Entry) (by kernel_rfl), run_sub64 x y b hb]
  rfl

theorem pick0 (x y : Nat) (hx : x < 18446744073709551616) (hy : y < 18446744073709551616) :
    bits .or .u64 (bits .and .u64 0 (y : Int)) (bits .and .u64 (bits .xor .u64 IntKind.u64.max 0) (x : Int)) = (x : Int) := by
  have e1 : bits .and .u64 0 (y : Int) = ((0 : Nat) : Int) := by
    have := bits_and_u64_nat 0 y (by omega) hy
    rwa [Nat.zero_and] at this
  have e2 : bits .xor .u64 IntKind.u64.max 0 = ((18446744073709551615 : Nat) : Int) := bits_xor_u64_nat 18446744073709551615 0 (by omega) (by omega)
  have e3 : bits .and .u64 ((18446744073709551615 : Nat) : Int) (x : Int) = (x : Int) := by
    have := bits_and_u64_nat 18446744073709551615 x (by omega) hx
    rw [this, Nat.and_comm, show (18446744073709551615 : Nat) = 2 ^ 64 - 1 by rfl, Nat.and_two_pow_sub_one_eq_mod, Nat.mod_eq_of_lt (by omega)]
  have e4 : bits .or .u64 ((0 : Nat) : Int) (x : Int) = (x : Int) := by
    rw [bits_or_u64_nat 0 x (by omega) hx, Nat.zero_or]
  rw [e1, e2, e3, e4]

theorem pick1 (x y : Nat) (hx : x < 18446744073709551616) (hy : y < 18446744073709551616) :
    bits .or .u64 (bits .and .u64 18446744073709551615 (y : Int)) (bits .and .u64 (bits .xor .u64 IntKind.u64.max 18446744073709551615) (x : Int)) = (y : Int) := by
  have e1 : bits .and .u64 18446744073709551615 (y : Int) = (y : Int) := by
    have := bits_and_u64_nat 18446744073709551615 y (by omega) hy
    rw [Nat.and_comm, show (18446744073709551615 : Nat) = 2 ^ 64 - 1 by rfl, Nat.and_two_pow_sub_one_eq_mod, Nat.mod_eq_of_lt (by omega)] at this
    exact this
  have e2 : bits .xor .u64 IntKind.u64.max 18446744073709551615 = ((0 : Nat) : Int) := bits_xor_u64_nat 18446744073709551615 18446744073709551615 (by omega) (by omega)
  have e3 : bits .and .u64 ((0 : Nat) : Int) (x : Int) = ((0 : Nat) : Int) := by
    rw [bits_and_u64_nat 0 x (by omega) hx, Nat.zero_and]
  have e4 : bits .or .u64 (y : Int) ((0 : Nat) : Int) = (y : Int) := by
    rw [bits_or_u64_nat y 0 hy (by omega), Nat.or_zero]
  rw [e1, e2, e3, e4]

theorem cmov_any (a : Addr) (c x y : Nat) (old : Value) (w : World) (hc : c ≤ 1) (hx : x < 18446744073709551616) (hy : y < 18446744073709551616) (hcell : w.cell? a = some old) (hfz : w.frozen? a = false) :
    Calls Try.prog 39 #[.pointer (some a), .int .u64 c, .int .u64 x, .int .u64 y] w fun e w' => e = .returned (.tuple #[]) ∧ w' = w.setCell a (.int .u64 ((if c = 0 then x else y : Nat) : Int)) := by
  rcases (show c = 0 ∨ c = 1 by omega) with rfl | rfl
  · go_enter Try.func39, Try.ntmps39
    go_wp2
    exact ⟨rfl, .tuple #[], results_none rfl _ _ _, rfl, by rw [pick0 x y hx hy]⟩
  · go_enter Try.func39, Try.ntmps39
    go_wp2
    exact ⟨rfl, .tuple #[], results_none rfl _ _ _, rfl, by rw [pick1 x y hx hy]⟩

end Go.Fiat

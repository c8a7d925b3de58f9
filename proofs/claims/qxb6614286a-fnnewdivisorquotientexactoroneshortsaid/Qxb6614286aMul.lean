import Derived.Test.Qxb6614286aRows
import Derived.WalkKit
import Derived.Lib.Mul64
import Derived.Laws.Bits64b
import Derived.Shelf.Bits.Mul64
set_option linter.unusedVariables false
namespace Go.Proofs.Qxb6614286a
open Go.RowKit Go.Lib

set_option maxHeartbeats 1000000 in
/-- zzMul64: the high and the low word of the product. -/
theorem mul_w (x y : Nat) (hx : x < 18446744073709551616) (hy : y < 18446744073709551616) (w : World) :
    Calls Try.prog 8 #[.int .u64 x, .int .u64 y] w fun e w' => e = .returned (.tuple #[.int .u64 ((x * y / 18446744073709551616 : Nat) : Int), .int .u64 ((x * y % 18446744073709551616 : Nat) : Int)]) ∧ w' = w := by
  obtain ⟨bd, bt, bw, hhi⟩ := Lib.mul64_hi x y hx hy
  have ba := Lib.half_mul_le (a := x / 4294967296) (b := y / 4294967296) (by omega) (by omega)
  have bb := Lib.half_mul_le (a := x / 4294967296) (b := y % 4294967296) (by omega) (by omega)
  have bc := Lib.half_mul_le (a := x % 4294967296) (b := y / 4294967296) (by omega) (by omega)
  have ba' : x / 4294967296 * (y / 4294967296) < 18446744073709551616 := by omega
  have bb' : x / 4294967296 * (y % 4294967296) < 18446744073709551616 := by omega
  have bc' : x % 4294967296 * (y / 4294967296) < 18446744073709551616 := by omega
  have bh1 : x / 4294967296 * (y / 4294967296) + (x / 4294967296 * (y % 4294967296) + x % 4294967296 * (y % 4294967296) / 4294967296) / 4294967296 < 18446744073709551616 := by omega
  have bh : x / 4294967296 * (y / 4294967296) + (x / 4294967296 * (y % 4294967296) + x % 4294967296 * (y % 4294967296) / 4294967296) / 4294967296 + ((x / 4294967296 * (y % 4294967296) + x % 4294967296 * (y % 4294967296) / 4294967296) % 4294967296 + x % 4294967296 * (y / 4294967296)) / 4294967296 < 18446744073709551616 := by omega
  go_enter Try.func8, Try.ntmps8
  go_wp2
  simp only [Mul64.maskN x hx, Mul64.maskN y hy, Mul64.divN, Mul64.mulN, Mul64.addN, Mul64.wrapN _ bd, Mul64.wrapN _ bb', Mul64.wrapN _ bt, Mul64.maskN _ bt, Mul64.wrapN _ bc', Mul64.wrapN _ bw, Mul64.wrapN _ ba', Mul64.wrapN _ bh1, Mul64.wrapN _ bh, Mul64.wrapM (x * y)]
  rw [hhi]
  go_ret2
  exact ⟨rfl, rfl⟩

/-- The plain law: the high word of x * ((2^64 - 1) / n) is x / n or one less. -/
theorem quot_law (x n : Nat) (hx : x < 18446744073709551616) (hn : 1 ≤ n) :
    x * (18446744073709551615 / n) / 18446744073709551616 = x / n ∨ x * (18446744073709551615 / n) / 18446744073709551616 + 1 = x / n := by
  have hm := Nat.div_add_mod 18446744073709551615 n
  have hr := Nat.mod_lt 18446744073709551615 (by omega : n > 0)
  generalize 18446744073709551615 / n = m at *
  generalize hrr : 18446744073709551615 % n = r at *
  have hq := Nat.div_add_mod x n
  have hs := Nat.mod_lt x (by omega : n > 0)
  generalize x / n = q at *
  generalize x % n = s at *
  have hh := Nat.div_add_mod (x * m) 18446744073709551616
  have hl := Nat.mod_lt (x * m) (by omega : 18446744073709551616 > 0)
  generalize hhi : x * m / 18446744073709551616 = h at *
  generalize x * m % 18446744073709551616 = l at *
  -- n * (x * m) = x * (2^64 - 1 - r)
  have key : n * (x * m) = x * (n * m) := by rw [← Nat.mul_assoc, Nat.mul_comm n x, Nat.mul_assoc]
  have up : h ≤ q := by
    refine Nat.le_of_not_lt fun hlt => ?_
    -- h ≥ q + 1: x * m ≥ 2^64 * (q+1), times n: x * (n m) ≥ 2^64 n (q+1) > 2^64 x
    have h1 : 18446744073709551616 * (q + 1) ≤ x * m := by omega
    have h2 := Nat.mul_le_mul_left n h1
    rw [key] at h2
    have h3 : x * (n * m) ≤ x * 18446744073709551615 := Nat.mul_le_mul_left x (by omega)
    have h4 : n * (18446744073709551616 * (q + 1)) = 18446744073709551616 * (n * q + n) := by
      rw [Nat.mul_left_comm, Nat.mul_succ]
    omega
  have low : q ≤ h + 1 := by
    refine Nat.le_of_not_lt fun hlt => ?_
    -- h + 2 ≤ q: x * m < 2^64 * (q - 1)
    have h1 : x * m + 1 ≤ 18446744073709551616 * (h + 1) := by omega
    have h2 := Nat.mul_le_mul_left n h1
    rw [Nat.mul_succ, key] at h2
    have h4 : n * (18446744073709551616 * (h + 1)) = 18446744073709551616 * (n * (h + 1)) := by rw [Nat.mul_left_comm]
    have h5 : n * (h + 2) ≤ n * q := Nat.mul_le_mul_left n (by omega)
    have h6 : n * (h + 2) = n * (h + 1) + n := Nat.mul_succ n (h + 1)
    -- n m = 2^64 - 1 - r ≥ 2^64 - n
    have h7 : x * (18446744073709551616 - n) ≤ x * (n * m) := Nat.mul_le_mul_left x (by omega)
    have h8 : x * (18446744073709551616 - n) + x * n = x * (18446744073709551616 - n + n) := (Nat.mul_add ..).symm
    have h8' : x * 18446744073709551616 ≤ x * (18446744073709551616 - n + n) := Nat.mul_le_mul_left x (by omega)
    have h9 : x * n ≤ 18446744073709551615 * n := Nat.mul_le_mul_right n (by omega)
    omega
  omega
end Go.Proofs.Qxb6614286a

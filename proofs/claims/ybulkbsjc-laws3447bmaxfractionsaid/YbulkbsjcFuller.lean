/-
  'fuller': which of two fractions is the larger, by the 128-bit products. Small numbers: the products do not reach the upper half.
-/
import Derived.Test.YbulkbsjcZeros
import Derived.Shelf.Bits.Mul64
namespace Go.Proofs.Ybulkbsjc
open Go.RowKit Go.Deep

set_option maxHeartbeats 1000000 in
theorem mul_any (x y : Nat) (hx : x < 18446744073709551616) (hy : y < 18446744073709551616) (w : World) :
    Calls Yba.prog 12 #[.int .u64 x, .int .u64 y] w fun e w' => e = .returned (.tuple #[.int .u64 ((x * y / 18446744073709551616 : Nat) : Int), .int .u64 ((x * y % 18446744073709551616 : Nat) : Int)]) ∧ w' = w := by
  obtain ⟨bd, bt, bw, hhi⟩ := Lib.mul64_hi x y hx hy
  have ba := Lib.half_mul_le (a := x / 4294967296) (b := y / 4294967296) (by omega) (by omega)
  have bb := Lib.half_mul_le (a := x / 4294967296) (b := y % 4294967296) (by omega) (by omega)
  have bc := Lib.half_mul_le (a := x % 4294967296) (b := y / 4294967296) (by omega) (by omega)
  have ba' : x / 4294967296 * (y / 4294967296) < 18446744073709551616 := by omega
  have bb' : x / 4294967296 * (y % 4294967296) < 18446744073709551616 := by omega
  have bc' : x % 4294967296 * (y / 4294967296) < 18446744073709551616 := by omega
  have bh1 : x / 4294967296 * (y / 4294967296) + (x / 4294967296 * (y % 4294967296) + x % 4294967296 * (y % 4294967296) / 4294967296) / 4294967296 < 18446744073709551616 := by omega
  have bh : x / 4294967296 * (y / 4294967296) + (x / 4294967296 * (y % 4294967296) + x % 4294967296 * (y % 4294967296) / 4294967296) / 4294967296 + ((x / 4294967296 * (y % 4294967296) + x % 4294967296 * (y % 4294967296) / 4294967296) % 4294967296 + x % 4294967296 * (y / 4294967296)) / 4294967296 < 18446744073709551616 := by omega
  go_enter Yba.func12, Yba.ntmps12
  go_wp2
  simp only [Mul64.maskN x hx, Mul64.maskN y hy, Mul64.divN, Mul64.mulN, Mul64.addN, Mul64.wrapN _ bd, Mul64.wrapN _ bb', Mul64.wrapN _ bt, Mul64.maskN _ bt, Mul64.wrapN _ bc', Mul64.wrapN _ bw, Mul64.wrapN _ ba', Mul64.wrapN _ bh1, Mul64.wrapN _ bh, Mul64.wrapM (x * y)]
  rw [hhi]
  go_ret2
  exact ⟨rfl, rfl⟩

theorem mul_small (x y : Nat) (hx : x < 1000) (hy : y < 1000) (w : World) :
    Calls Yba.prog 12 #[.int .u64 x, .int .u64 y] w fun e w' => e = .returned (.tuple #[.int .u64 0, .int .u64 ((x * y : Nat) : Int)]) ∧ w' = w := by
  refine (mul_any x y (by omega) (by omega) w).mono ?_
  rintro e w' ⟨rfl, rfl⟩
  have h : x * y ≤ 1000 * 1000 := Nat.mul_le_mul (by omega) (by omega)
  rw [Nat.div_eq_of_lt (by omega), Nat.mod_eq_of_lt (by omega)]
  exact ⟨rfl, rfl⟩

set_option maxHeartbeats 400000 in
theorem fuller_any (a ca b cb : Nat) (ha : a < 1000) (hca : ca < 1000) (hb : b < 1000) (hcb : cb < 1000) (w : World) :
    Calls Yba.prog 11 #[.int .i64 a, .int .i64 ca, .int .i64 b, .int .i64 cb] w fun e w' => e = .returned (.bool (decide (b * ca < a * cb))) ∧ w' = w := by
  have e1 : IntKind.u64.wrap (a : Int) = a := by rw [IntKind.wrap_u64]; omega
  have e2 : IntKind.u64.wrap (ca : Int) = ca := by rw [IntKind.wrap_u64]; omega
  have e3 : IntKind.u64.wrap (b : Int) = b := by rw [IntKind.wrap_u64]; omega
  have e4 : IntKind.u64.wrap (cb : Int) = cb := by rw [IntKind.wrap_u64]; omega
  obtain ⟨p, hp⟩ : ∃ p, a * cb = p := ⟨_, rfl⟩
  obtain ⟨q, hq⟩ : ∃ q, b * ca = q := ⟨_, rfl⟩
  have c1 := mul_small a cb ha hcb
  have c2 := mul_small b ca hb hca
  rw [hp] at c1
  rw [hq] at c2
  rw [hp, hq]
  go_enter Yba.func11, Yba.ntmps11
  go_wp2_with fail
  refine (c1 _).mono ?_
  rintro e w' ⟨rfl, rfl⟩
  go_wp2_with fail
  refine (c2 _).mono ?_
  rintro e w' ⟨rfl, rfl⟩
  go_wp2
  go_ret
  refine ⟨?_, rfl⟩
  congr 2
end Go.Proofs.Ybulkbsjc

/-
  math/bits.Add, Sub, Mul at this dump: contracts over Int, the results under names of their own.
-/
import Derived.Test.Qxb6003414aRows
import Derived.Test.Qxb6003414aNum
import Derived.WalkKit
import Derived.WalkSpells
import Derived.Lib.Mul64
import Derived.Laws.Bits64b
import Derived.Shelf.Spec.BitsCarry
namespace Go.Proofs.Qxb6003414a
open Go Go.RowKit

theorem add64_run (x y c : Int) (hx : 0 ≤ x) (hy : 0 ≤ y) (hc0 : 0 ≤ c) (hc : c ≤ 1) (w : World) : (callFunc 50 #[.int .u64 x, .int .u64 y, .int .u64 c]).run Try.prog w =
    .ok (.value (.tuple #[.int .u64 (addLo x y c), .int .u64 (addHi x y c)])) w := by
  rw [run_callFunc_extern Try.func50 (by kernel_rfl) (by kernel_rfl) (by kernel_rfl) (e := add64Entry) (by kernel_rfl), run_add64 x y c hx hy hc0 hc]
  simp only [Result.andThen]
  rfl
theorem sub64_run (x y b : Int) (hx : W64 x) (hy : W64 y) (hb0 : 0 ≤ b) (hb : b ≤ 1) (w : World) : (callFunc 52 #[.int .u64 x, .int .u64 y, .int .u64 b]).run Try.prog w =
    .ok (.value (.tuple #[.int .u64 (subLo x y b), .int .u64 (subHi x y b)])) w := by
  unfold W64 at hx hy
  obtain ⟨x, rfl⟩ := Int.eq_ofNat_of_zero_le hx.1
  obtain ⟨y, rfl⟩ := Int.eq_ofNat_of_zero_le hy.1
  obtain ⟨b, rfl⟩ := Int.eq_ofNat_of_zero_le hb0
  have e1 : (((x + 18446744073709551616 - y - b) % 18446744073709551616 : Nat) : Int) = subLo x y b := by unfold subLo; omega
  have e2 : ((if x < y + b then 1 else 0 : Nat) : Int) = subHi x y b := by unfold subHi; split <;> split <;> omega
  rw [run_callFunc_extern Try.func52 (by kernel_rfl) (by kernel_rfl) (by kernel_rfl) (e := sub64Entry) (by kernel_rfl), run_sub64 x y b (by omega), e1, e2]
  simp only [Result.andThen]

theorem add_any (x y c : Int) (hx : W64 x) (hy : W64 y) (hc0 : 0 ≤ c) (hc : c ≤ 1) (w : World) :
    Calls Try.prog 44 #[.int .u64 x, .int .u64 y, .int .u64 c] w fun e w' => e = .returned (.tuple #[.int .u64 (addLo x y c), .int .u64 (addHi x y c)]) ∧ w' = w := by
  have hr := add64_run x y c hx.1 hy.1 hc0 hc
  go_enter Try.func44, Try.ntmps44
  go_wp2_with (simp only [hr])
  go_ret2
  exact ⟨rfl, rfl⟩
theorem sub_any (x y c : Int) (hx : W64 x) (hy : W64 y) (hc0 : 0 ≤ c) (hc : c ≤ 1) (w : World) :
    Calls Try.prog 45 #[.int .u64 x, .int .u64 y, .int .u64 c] w fun e w' => e = .returned (.tuple #[.int .u64 (subLo x y c), .int .u64 (subHi x y c)]) ∧ w' = w := by
  have hr := sub64_run x y c hx hy hc0 hc
  go_enter Try.func45, Try.ntmps45
  go_wp2_with (simp only [hr])
  go_ret2
  exact ⟨rfl, rfl⟩

namespace M64
theorem maskN (a : Nat) (ha : a < 18446744073709551616) : bits .and .u64 (a : Int) 4294967295 = ((a % 4294967296 : Nat) : Int) := by
  have h := bits_and_u64_nat a 4294967295 ha (by omega)
  have e : a &&& 4294967295 = a % 4294967296 := Nat.and_two_pow_sub_one_eq_mod a 32
  rw [e] at h
  exact h
theorem divN (a : Nat) : (a : Int) / 4294967296 = ((a / 4294967296 : Nat) : Int) := by omega
theorem mulN (a b : Nat) : (a : Int) * (b : Int) = ((a * b : Nat) : Int) := (Int.natCast_mul a b).symm
theorem addN (a b : Nat) : (a : Int) + (b : Int) = ((a + b : Nat) : Int) := (Int.natCast_add a b).symm
theorem wrapN (a : Nat) (ha : a < 18446744073709551616) : IntKind.u64.wrap (a : Int) = (a : Int) := by rw [IntKind.wrap_u64]; omega
theorem wrapM (a : Nat) : IntKind.u64.wrap (a : Int) = ((a % 18446744073709551616 : Nat) : Int) := by rw [IntKind.wrap_u64]; omega
end M64

set_option maxHeartbeats 1000000 in
theorem mul64_nat (x y : Nat) (hx : x < 18446744073709551616) (hy : y < 18446744073709551616) (w : World) :
    Calls Try.prog 54 #[.int .u64 x, .int .u64 y] w fun e w' => e = .returned (.tuple #[.int .u64 ((x * y / 18446744073709551616 : Nat) : Int), .int .u64 ((x * y % 18446744073709551616 : Nat) : Int)]) ∧ w' = w := by
  obtain ⟨bd, bt, bw, hhi⟩ := Lib.mul64_hi x y hx hy
  have ba := Lib.half_mul_le (a := x / 4294967296) (b := y / 4294967296) (by omega) (by omega)
  have bb := Lib.half_mul_le (a := x / 4294967296) (b := y % 4294967296) (by omega) (by omega)
  have bc := Lib.half_mul_le (a := x % 4294967296) (b := y / 4294967296) (by omega) (by omega)
  have ba' : x / 4294967296 * (y / 4294967296) < 18446744073709551616 := by omega
  have bb' : x / 4294967296 * (y % 4294967296) < 18446744073709551616 := by omega
  have bc' : x % 4294967296 * (y / 4294967296) < 18446744073709551616 := by omega
  have bh1 : x / 4294967296 * (y / 4294967296) + (x / 4294967296 * (y % 4294967296) + x % 4294967296 * (y % 4294967296) / 4294967296) / 4294967296 < 18446744073709551616 := by omega
  have bh : x / 4294967296 * (y / 4294967296) + (x / 4294967296 * (y % 4294967296) + x % 4294967296 * (y % 4294967296) / 4294967296) / 4294967296 + ((x / 4294967296 * (y % 4294967296) + x % 4294967296 * (y % 4294967296) / 4294967296) % 4294967296 + x % 4294967296 * (y / 4294967296)) / 4294967296 < 18446744073709551616 := by omega
  go_enter Try.func54, Try.ntmps54
  go_wp2
  simp only [M64.maskN x hx, M64.maskN y hy, M64.divN, M64.mulN, M64.addN, M64.wrapN _ bd, M64.wrapN _ bb', M64.wrapN _ bt, M64.maskN _ bt, M64.wrapN _ bc', M64.wrapN _ bw, M64.wrapN _ ba', M64.wrapN _ bh1, M64.wrapN _ bh, M64.wrapM (x * y)]
  rw [hhi]
  go_ret2
  exact ⟨rfl, rfl⟩

theorem mul_any (x y : Int) (hx : W64 x) (hy : W64 y) (w : World) :
    Calls Try.prog 46 #[.int .u64 x, .int .u64 y] w fun e w' => e = .returned (.tuple #[.int .u64 (mulHi x y), .int .u64 (mulLo x y)]) ∧ w' = w := by
  have c64 : ∀ w, Calls Try.prog 54 #[.int .u64 x, .int .u64 y] w fun e w' => e = .returned (.tuple #[.int .u64 (mulHi x y), .int .u64 (mulLo x y)]) ∧ w' = w := by
    intro w
    unfold W64 at hx hy
    obtain ⟨x, rfl⟩ := Int.eq_ofNat_of_zero_le hx.1
    obtain ⟨y, rfl⟩ := Int.eq_ofNat_of_zero_le hy.1
    have e1 : ((x * y / 18446744073709551616 : Nat) : Int) = mulHi x y := by unfold mulHi; rw [M64.mulN]; omega
    have e2 : ((x * y % 18446744073709551616 : Nat) : Int) = mulLo x y := by unfold mulLo; rw [M64.mulN]; omega
    have := mul64_nat x y (by omega) (by omega) w
    rw [e1, e2] at this
    exact this
  go_enter Try.func46, Try.ntmps46
  go_wp2_with (go_at_call 54; refine (c64 _).mono ?_; rintro e w' ⟨rfl, rfl⟩)
  go_ret2
  exact ⟨rfl, rfl⟩
end Go.Proofs.Qxb6003414a

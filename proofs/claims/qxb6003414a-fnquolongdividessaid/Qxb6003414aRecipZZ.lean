/-
  THE WALKS of zzNormShift, ZZreciprocalOf, ZZreciprocalQuo.
-/
import Derived.Test.Qxb6003414aRecip
namespace Go.Proofs.Qxb6003414a
open Go Go.RowKit

theorem P2_succ (k : Nat) : P2 (k + 1) = P2 k * 2 := by unfold P2; rw [Int.pow_succ]
theorem norm_below {d : Int} (h : W64 d) (h0 : d ≠ 0) {k : Nat} (hk : k < lzs d) : 0 ≤ d * P2 k ∧ d * P2 k < 9223372036854775808 ∧ d * P2 (k + 1) = d * P2 k * 2 := by
  obtain ⟨f1, f2, f3⟩ := lzs_facts h h0
  have hd : 0 ≤ d := h.1
  have h1 : 0 ≤ d * P2 k := Int.mul_nonneg hd (Int.le_of_lt (P2_pos k))
  have e : P2 (lzs d) = P2 (k + 1) * P2 (lzs d - (k + 1)) := by
    unfold P2
    rw [← Int.pow_add]; congr 1; omega
  have h2 : d * P2 (k + 1) * 1 ≤ d * P2 (k + 1) * P2 (lzs d - (k + 1)) := Int.mul_le_mul_of_nonneg_left (P2_pos _) (Int.mul_nonneg hd (Int.le_of_lt (P2_pos _)))
  have e3 : d * P2 (k + 1) = d * P2 k * 2 := by rw [P2_succ, Int.mul_assoc]
  unfold normOf at f3
  rw [e, ← Int.mul_assoc] at f3
  rw [Int.mul_one] at h2
  exact ⟨h1, by omega, e3⟩

set_option maxHeartbeats 400000 in
/-- zzNormShift. -/
theorem normShift_any (d : Int) (w : World) (h : W64 d) (h0 : d ≠ 0) :
    Calls Try.prog 24 #[.int .u64 d] w fun e w' => e = .returned (.tuple #[.int .u64 (normOf d), .int .u64 (lzs d : Nat)]) ∧ w' = w := by
  obtain ⟨f1, f2, f3⟩ := lzs_facts h h0
  go_enter Try.func24, Try.ntmps24
  go_wp2
  go_loop [4, 5] (fun a b => ∃ k : Nat, k ≤ lzs d ∧ a = .int .u64 (d * P2 k) ∧ b = .int .u64 k) (fun _ b => 64 - (intOf b).toNat)
  case atStart => exact ⟨0, Nat.zero_le _, by rw [P2_zero, Int.mul_one], rfl⟩
  case round =>
    obtain ⟨k, hk, rfl, rfl⟩ := hrel
    by_cases hlt : k < lzs d
    · obtain ⟨n0, n1, n2⟩ := norm_below h h0 hlt
      have Hn : Hid (d * P2 (k + 1) = d * P2 k * 2) := n2
      clear n2
      generalize d * P2 k = n at *
      have hk63 : (k : Int) < 63 := by omega
      have hz : (n / 9223372036854775808 == 0) = true := by rw [beq_iff_eq]; omega
      go_wp2
      go_round
      case rel => exact ⟨k + 1, by omega, by rw [Hn.out], by go_num⟩
      case measure => simp [intOf]; omega
    · obtain rfl : k = lzs d := by omega
      have en : d * P2 (lzs d) = normOf d := rfl
      rw [en]
      clear en
      have hz : (normOf d / 9223372036854775808 == 0) = false := by rw [beq_eq_false_iff_ne]; omega
      clear hlt hk
      go_wp2
      all_goals (go_ret2; exact ⟨rfl, rfl⟩)

/-- ZZreciprocalOf. -/
theorem zzrecip_any (d : Int) (w : World) (h : W64 d) (h0 : d ≠ 0) :
    Calls Try.prog 25 #[.int .u64 d] w fun e w' => e = .returned (.tuple #[.int .u64 (normOf d), .int .u64 (recOf d), .int .u64 (lzs d : Nat)]) ∧ w.grownBy w' none := by
  go_enter Try.func25, Try.ntmps25
  go_wp2_with fail
  refine (recipOf_any d _ h h0).mono ?_
  rintro e w1 ⟨rfl, hg⟩
  go_wp2
  go_quiet (fail)
  go_wp2
  go_ret3
  exact ⟨rfl, grownBy_drewN (grownBy_then0 hg (World.grownBy_alloc _ _ _)) _⟩

/-- ZZreciprocalQuo. -/
theorem zzquo_any (d u1 u0 : Int) (w : World) (h : W64 d) (h0 : d ≠ 0) (h1 : 0 ≤ u1) (h2 : u1 < normOf d) (h3 : W64 u0) :
    Calls Try.prog 26 #[.int .u64 d, .int .u64 u1, .int .u64 u0] w fun e w' => e = .returned (.tuple #[.int .u64 ((u1 * 18446744073709551616 + u0) / normOf d), .int .u64 ((u1 * 18446744073709551616 + u0) % normOf d)]) ∧ w.grownBy w' none := by
  have R := recip_d h h0
  go_enter Try.func26, Try.ntmps26
  go_wp2_with fail
  refine (recipOf_any d _ h h0).mono ?_
  rintro e w1 ⟨rfl, hg⟩
  go_wp2_with fail
  refine (quo_any (normOf d) (recOf d) u1 u0 _ _ R h1 h2 h3).mono ?_
  rintro e w2 ⟨rfl, hg2⟩
  obtain ⟨Q, hQ⟩ : ∃ Q, Q = (u1 * 18446744073709551616 + u0) / normOf d := ⟨_, rfl⟩
  obtain ⟨RR, hR⟩ : ∃ RR, RR = (u1 * 18446744073709551616 + u0) % normOf d := ⟨_, rfl⟩
  rw [← hQ, ← hR]
  have HQ : Hid (Q = (u1 * 18446744073709551616 + u0) / normOf d) := hQ
  have HR : Hid (RR = (u1 * 18446744073709551616 + u0) % normOf d) := hR
  clear hQ hR
  go_wp2
  go_ret2
  exact ⟨by rw [← HQ.out, ← HR.out]; rfl, grownBy_then0 hg hg2⟩
end Go.Proofs.Qxb6003414a

/-
  THE WALKS of bits.Div at a divisor with its top bit set, reciprocalOf, quo, zzNormShift and their ZZ shims.
-/
import Derived.Test.Qxb6003414aDiv
import Derived.Test.Qxb6003414aShl
import Derived.Deep.RegionWith
namespace Go.Proofs.Qxb6003414a
open Go Go.RowKit

theorem div64_zero (lo y : Int) (w : World) (hlo : W64 lo) (hy : 9223372036854775808 ≤ y) (hy' : y < 18446744073709551616) :
    Calls Try.prog 57 #[.int .u64 0, .int .u64 lo, .int .u64 y] w fun e w' => e = .returned (.tuple #[.int .u64 (lo / y), .int .u64 (lo % y)]) ∧ w.grownBy w' none := by
  have g1 : (y == 0) = false := by rw [beq_eq_false_iff_ne]; omega
  have g3 : decide (y ≤ 0) = false := decide_eq_false (by omega)
  have hlo0 := hlo.1
  have hlo1 := hlo.2
  have k0 : 0 ≤ lo / y := Int.ediv_nonneg hlo0 (by omega)
  have k1 : lo / y ≤ lo := Int.ediv_le_self _ hlo0
  have k2 : 0 ≤ lo % y := Int.emod_nonneg _ (by omega)
  have k3 : lo % y < y := Int.emod_lt_of_pos _ (by omega)
  go_enter Try.func57, Try.ntmps57
  go_wp2
  go_quiet (fail)
  go_wp2
  go_ret2
  exact ⟨rfl, grownBy_drewN (grownBy_refl _ _) _⟩

/-- Div at a divisor with its top bit set. -/
theorem div_any (hi lo y : Int) (w : World) (h1 : 0 ≤ hi) (h2 : hi < y) (hlo : W64 lo) (hy : 9223372036854775808 ≤ y) (hy' : y < 18446744073709551616) :
    Calls Try.prog 48 #[.int .u64 hi, .int .u64 lo, .int .u64 y] w fun e w' => e = .returned (.tuple #[.int .u64 ((hi * 18446744073709551616 + lo) / y), .int .u64 ((hi * 18446744073709551616 + lo) % y)]) ∧ w.grownBy w' none := by
  have c64 : ∀ w, Calls Try.prog 57 #[.int .u64 hi, .int .u64 lo, .int .u64 y] w fun e w' => e = .returned (.tuple #[.int .u64 ((hi * 18446744073709551616 + lo) / y), .int .u64 ((hi * 18446744073709551616 + lo) % y)]) ∧ w.grownBy w' none := by
    intro w
    by_cases h0 : hi = 0
    · subst h0
      have := div64_zero lo y w hlo hy hy'
      rw [Int.zero_mul, Int.zero_add]
      exact this
    · exact (div64_pos hi lo y w (by omega) h2 hlo hy hy').mono fun e w' ⟨he, hw⟩ => ⟨he, by rw [hw]; exact grownBy_refl _ _⟩
  generalize (hi * 18446744073709551616 + lo) / y = Q at *
  generalize (hi * 18446744073709551616 + lo) % y = R at *
  go_enter Try.func48, Try.ntmps48
  go_wp2_with fail
  refine (c64 _).mono ?_
  rintro e w' ⟨rfl, hg⟩
  go_wp2
  go_ret2
  exact ⟨rfl, hg⟩

/-- The divisor shifted up till its top bit is set; the reciprocal of that. -/
def normOf (d : Int) : Int := d * P2 (lzs d)
def recOf (d : Int) : Int := ((18446744073709551615 - normOf d) * 18446744073709551616 + 18446744073709551615) / normOf d
theorem lzs_facts {d : Int} (h : W64 d) (h0 : d ≠ 0) : lzs d ≤ 63 ∧ 9223372036854775808 ≤ normOf d ∧ normOf d < 18446744073709551616 := by
  obtain ⟨a, b, c, e⟩ := bitLen_facts h h0
  unfold normOf lzs
  generalize Lib.bitLen d.toNat = L at *
  have hd : d = (d.toNat : Int) := by have := h.1; omega
  refine ⟨by omega, ?_, ?_⟩
  · have h1 : 2 ^ (L - 1) * 2 ^ (64 - L) ≤ d.toNat * 2 ^ (64 - L) := Nat.mul_le_mul_right _ c
    rw [← Nat.pow_add, show L - 1 + (64 - L) = 63 by omega] at h1
    rw [hd]
    unfold P2
    have e2 : ((d.toNat * 2 ^ (64 - L) : Nat) : Int) = (d.toNat : Int) * 2 ^ (64 - L) := by simp
    rw [← e2]
    omega
  · have h1 : d.toNat * 2 ^ (64 - L) < 2 ^ L * 2 ^ (64 - L) := Nat.mul_lt_mul_of_pos_right e (Nat.two_pow_pos _)
    rw [← Nat.pow_add, show L + (64 - L) = 64 by omega] at h1
    rw [hd]
    unfold P2
    have e2 : ((d.toNat * 2 ^ (64 - L) : Nat) : Int) = (d.toNat : Int) * 2 ^ (64 - L) := by simp
    rw [← e2]
    omega
theorem recip_of {n v : Int} (h1 : 9223372036854775808 ≤ n) (h2 : n < 18446744073709551616) (hv : v = ((18446744073709551615 - n) * 18446744073709551616 + 18446744073709551615) / n) : Recip n v := by
  have e := Int.emod_add_mul_ediv ((18446744073709551615 - n) * 18446744073709551616 + 18446744073709551615) n
  have m0 := Int.emod_nonneg ((18446744073709551615 - n) * 18446744073709551616 + 18446744073709551615) (show n ≠ 0 by omega)
  have m1 := Int.emod_lt_of_pos ((18446744073709551615 - n) * 18446744073709551616 + 18446744073709551615) (show 0 < n by omega)
  rw [← hv] at e
  have v0 : 0 ≤ v := by rw [hv]; exact Int.ediv_nonneg (by omega) (by omega)
  generalize ((18446744073709551615 - n) * 18446744073709551616 + 18446744073709551615) % n = r at *
  have v1 : v < 18446744073709551616 := by
    apply Int.lt_of_not_ge
    intro hc
    have : n * 18446744073709551616 ≤ n * v := Int.mul_le_mul_of_nonneg_left hc (by omega)
    omega
  refine ⟨h1, h2, v0, v1, ?_, ?_⟩
  · rw [Int.add_mul, Int.mul_comm v n]; omega
  · rw [Int.add_mul, Int.add_mul, Int.mul_comm v n, Int.one_mul]; omega
theorem recip_d {d : Int} (h : W64 d) (h0 : d ≠ 0) : Recip (normOf d) (recOf d) := by
  have := lzs_facts h h0
  exact recip_of this.2.1 this.2.2 rfl

theorem xor_ones (n : Nat) (h : n < 18446744073709551616) : 18446744073709551615 ^^^ n = 18446744073709551615 - n := by
  have h1 : (BitVec.allOnes 64 ^^^ BitVec.ofNat 64 n).toNat = (~~~ (BitVec.ofNat 64 n)).toNat := by rw [BitVec.allOnes_xor]
  rw [BitVec.toNat_xor, BitVec.toNat_not, BitVec.toNat_allOnes, BitVec.toNat_ofNat, Nat.mod_eq_of_lt (by omega)] at h1
  exact h1
theorem not_word {n : Int} (h : W64 n) : bits BinOp.xor IntKind.u64 IntKind.u64.max n = 18446744073709551615 - n := by
  unfold W64 at h
  obtain ⟨k, rfl⟩ := Int.eq_ofNat_of_zero_le h.1
  have := bits_xor_u64_nat 18446744073709551615 k (by omega) (by omega)
  rw [xor_ones k (by omega)] at this
  have e : bits BinOp.xor IntKind.u64 IntKind.u64.max (k : Int) = bits BinOp.xor IntKind.u64 ((18446744073709551615 : Nat) : Int) (k : Int) := rfl
  rw [e, this]
  omega

set_option maxHeartbeats 1000000 in
/-- reciprocalOf. -/
theorem recipOf_any (d : Int) (w : World) (h : W64 d) (h0 : d ≠ 0) :
    Calls Try.prog 40 #[.int .u64 d] w fun e w' => e = .returned (.agg #[.int .u64 (normOf d), .int .u64 (recOf d), .int .u64 (lzs d : Nat)]) ∧ w.grownBy w' none := by
  obtain ⟨f1, f2, f3⟩ := lzs_facts h h0
  have hn : IntKind.u64.wrap (d * 2 ^ lzs d) = normOf d := by
    rw [IntKind.wrap_u64]
    show (d * P2 (lzs d)) % _ = _
    unfold normOf at *
    omega
  have Hv : Hid (recOf d = ((18446744073709551615 - normOf d) * 18446744073709551616 + 18446744073709551615) / normOf d) := (show _ = _ from rfl)
  generalize normOf d = n at *
  generalize recOf d = v at *
  have hs : (lzs d : Int) ≤ 63 := by omega
  have hnot := not_word (n := n) ⟨by omega, f3⟩
  go_enter Try.func40, Try.ntmps40
  go_wp2_with (go_at_call 47; refine (lz_any d _ h h0).mono ?_; rintro e w' ⟨rfl, rfl⟩)
  refine (div_any (18446744073709551615 - n) 18446744073709551615 n _ (by omega) (by omega) ⟨by omega, by omega⟩ f2 f3).mono ?_
  rintro e w1 ⟨rfl, hg⟩
  rw [← Hv.out]
  generalize ((18446744073709551615 - n) * 18446744073709551616 + 18446744073709551615) % n = rm
  have hb : Blk w1 w.heap.size 52 [0, 0, 0] := Blk.grown0 (heap_alloc_new w _) hg
  have k0 := hb.cell 0 (by simp)
  have k1 := hb.cell 1 (by simp)
  have k2 := hb.cell 2 (by simp)
  have j0 := hb.frozen 0
  have j1 := hb.frozen 1
  have j2 := hb.frozen 2
  have hl := hb.lt
  have gA := grownBy_then0 (World.grownBy_alloc w (.cells #[Value.int IntKind.u64 0, Value.int IntKind.u64 0, Value.int IntKind.u64 0] 52) none) hg
  clear hb hg hnot hn
  go_wp2
  refine bodyPost_ret (v := .agg #[.int .u64 n, .int .u64 v, .int .u64 (lzs d : Nat)]) (by simp [results, Try.results40, go_sem, k0, k1, k2]) rfl ⟨rfl, ?_⟩
  exact grownBy_new (grownBy_set (grownBy_set (grownBy_set (grownBy_weak gA)))) (Nat.le_refl _)

set_option maxHeartbeats 2000000 in
/-- quo: the quotient and remainder of two words by one, by its reciprocal. -/
theorem quo_any (d v u1 u0 : Int) (sh : Int) (w : World) (R : Recip d v) (h1 : 0 ≤ u1) (h1' : u1 < d) (h0 : W64 u0) :
    Calls Try.prog 41 #[.agg #[.int .u64 d, .int .u64 v, .int .u64 sh], .int .u64 u1, .int .u64 u0] w fun e w' => e = .returned (.tuple #[.int .u64 ((u1 * 18446744073709551616 + u0) / d), .int .u64 ((u1 * 18446744073709551616 + u0) % d)]) ∧ w.grownBy w' none := by
  have hv : W64 v := ⟨R.v0, R.v1⟩
  have dlo := R.lo
  have dhi := R.hi
  have hu : W64 u1 := ⟨h1, by omega⟩
  have hu2 : W64 (u1 + 1) := ⟨by omega, by omega⟩
  have m := mul_facts hv hu
  have a := add_facts (c := 0) m.1 h0 (by omega) (by omega)
  have mw : W64 (mulHi v u1) := ⟨m.2.1, by omega⟩
  have a2 := add_facts mw hu2 a.2.1 a.2.2.1
  obtain ⟨c, hc⟩ : ∃ c, addHi (mulLo v u1) u0 0 = c := ⟨_, rfl⟩
  obtain ⟨l, hl⟩ : ∃ l, addLo (mulLo v u1) u0 0 = l := ⟨_, rfl⟩
  obtain ⟨q, hq⟩ : ∃ q, addLo (mulHi v u1) (u1 + 1) c = q := ⟨_, rfl⟩
  obtain ⟨r0, hr⟩ : ∃ r0, IntKind.u64.wrap (u0 - IntKind.u64.wrap (q * d)) = r0 := ⟨_, rfl⟩
  have c0 : 0 ≤ c := by rw [← hc]; exact a.2.1
  have c1 : c ≤ 1 := by rw [← hc]; exact a.2.2.1
  have ml := m.1
  have qw : W64 q := by rw [← hq, ← hc]; exact a2.1
  have lw : W64 l := by rw [← hl]; exact a.1
  have rw0 : 0 ≤ r0 ∧ r0 < 18446744073709551616 := by rw [← hr, IntKind.wrap_u64]; omega
  have M := mg_quo (l := l) (q := q) (r0 := r0) R h1 h1' h0 hl.symm (by rw [hc, hq]) (by rw [← hr, IntKind.wrap_u64, IntKind.wrap_u64])
  have HM : Hid _ := M
  obtain ⟨r1, hr1⟩ : ∃ r1, IntKind.u64.wrap (r0 + d) = r1 := ⟨_, rfl⟩
  obtain ⟨qm, hqm⟩ : ∃ qm, IntKind.u64.wrap (q - 1) = qm := ⟨_, rfl⟩
  have r1w : 0 ≤ r1 ∧ r1 < 18446744073709551616 := by rw [← hr1, IntKind.wrap_u64]; omega
  clear m a a2 M R
  generalize (u1 * 18446744073709551616 + u0) / d = Q at *
  generalize (u1 * 18446744073709551616 + u0) % d = RR at *
  by_cases hA : l < r0
  · by_cases hB : d ≤ r1
    · obtain ⟨e1, e2⟩ := (HM.out.1 hA).1 (by rw [← IntKind.wrap_u64, hr1]; exact hB)
      rw [← IntKind.wrap_u64 (q - 1), hqm, ← IntKind.wrap_u64 (qm + 1)] at e1
      rw [← IntKind.wrap_u64 (r0 + d), hr1] at e2
      have e3 : r1 - d = RR := by omega
      clear HM e2
      go_enter Try.func41, Try.ntmps41
      go_wp2_with (first | (go_at_call 46; refine (mul_any _ _ hv hu _).mono ?_; rintro e w' ⟨rfl, rfl⟩) | (go_at_call_of 44 (Value.int IntKind.u64 (mulLo v u1)); refine (add_any _ _ _ ml h0 (Int.le_refl 0) (by decide) _).mono ?_; rintro e w' ⟨rfl, rfl⟩) | (go_at_call_of 44 (Value.int IntKind.u64 (mulHi v u1)); refine (add_any _ _ _ mw hu2 c0 c1 _).mono ?_; rintro e w' ⟨rfl, rfl⟩))
      go_ret2
      exact ⟨rfl, World.grownBy_alloc _ _ _⟩
    · obtain ⟨e1, e2⟩ := (HM.out.1 hA).2 (by rw [← IntKind.wrap_u64, hr1]; omega)
      rw [← IntKind.wrap_u64 (q - 1), hqm] at e1
      rw [← IntKind.wrap_u64 (r0 + d), hr1] at e2
      clear HM
      subst e1 e2
      go_enter Try.func41, Try.ntmps41
      go_wp2_with (first | (go_at_call 46; refine (mul_any _ _ hv hu _).mono ?_; rintro e w' ⟨rfl, rfl⟩) | (go_at_call_of 44 (Value.int IntKind.u64 (mulLo v u1)); refine (add_any _ _ _ ml h0 (Int.le_refl 0) (by decide) _).mono ?_; rintro e w' ⟨rfl, rfl⟩) | (go_at_call_of 44 (Value.int IntKind.u64 (mulHi v u1)); refine (add_any _ _ _ mw hu2 c0 c1 _).mono ?_; rintro e w' ⟨rfl, rfl⟩))
      go_ret2
      exact ⟨rfl, World.grownBy_alloc _ _ _⟩
  · by_cases hB : d ≤ r0
    · obtain ⟨e1, e2⟩ := (HM.out.2 (by omega)).1 hB
      rw [← IntKind.wrap_u64 (q + 1)] at e1
      have e3 : r0 - d = RR := by omega
      clear HM e2
      go_enter Try.func41, Try.ntmps41
      go_wp2_with (first | (go_at_call 46; refine (mul_any _ _ hv hu _).mono ?_; rintro e w' ⟨rfl, rfl⟩) | (go_at_call_of 44 (Value.int IntKind.u64 (mulLo v u1)); refine (add_any _ _ _ ml h0 (Int.le_refl 0) (by decide) _).mono ?_; rintro e w' ⟨rfl, rfl⟩) | (go_at_call_of 44 (Value.int IntKind.u64 (mulHi v u1)); refine (add_any _ _ _ mw hu2 c0 c1 _).mono ?_; rintro e w' ⟨rfl, rfl⟩))
      go_ret2
      exact ⟨rfl, World.grownBy_alloc _ _ _⟩
    · obtain ⟨e1, e2⟩ := (HM.out.2 (by omega)).2 (by omega)
      clear HM
      subst e1 e2
      go_enter Try.func41, Try.ntmps41
      go_wp2_with (first | (go_at_call 46; refine (mul_any _ _ hv hu _).mono ?_; rintro e w' ⟨rfl, rfl⟩) | (go_at_call_of 44 (Value.int IntKind.u64 (mulLo v u1)); refine (add_any _ _ _ ml h0 (Int.le_refl 0) (by decide) _).mono ?_; rintro e w' ⟨rfl, rfl⟩) | (go_at_call_of 44 (Value.int IntKind.u64 (mulHi v u1)); refine (add_any _ _ _ mw hu2 c0 c1 _).mono ?_; rintro e w' ⟨rfl, rfl⟩))
      go_ret2
      exact ⟨rfl, World.grownBy_alloc _ _ _⟩
end Go.Proofs.Qxb6003414a

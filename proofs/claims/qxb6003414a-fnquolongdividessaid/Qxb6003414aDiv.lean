/-
  THE WALKS of math/bits.Len64, LeadingZeros64, LeadingZeros, Div64 and Div (at a divisor with its top bit set).
-/
import Derived.Test.Qxb6003414aBits
import Derived.Test.Qxb6003414aDivNum
import Derived.Test.Qxb6003414aMem
import Derived.Test.Qxb6003414aLen
import Derived.Lib.ItoaNum
import Derived.Deep.QuietTactic
import Derived.BigQuiet
namespace Go.Proofs.Qxb6003414a
open Go Go.RowKit

/-- How far a word is to be shifted up till its top bit is set. -/
def lzs (d : Int) : Nat := 64 - Lib.bitLen d.toNat
theorem bitLen_facts {d : Int} (h : W64 d) (h0 : d ≠ 0) : 1 ≤ Lib.bitLen d.toNat ∧ Lib.bitLen d.toNat ≤ 64 ∧ 2 ^ (Lib.bitLen d.toNat - 1) ≤ d.toNat ∧ d.toNat < 2 ^ Lib.bitLen d.toNat := by
  unfold W64 at h
  have hx : d.toNat < 2 ^ 64 := by omega
  obtain ⟨a, b, c⟩ := Lib.bitLenAux_bounds 64 d.toNat hx (by omega)
  have hL : Lib.bitLen d.toNat ≤ 64 := Lib.bitLen_le d.toNat 64 (Nat.le_refl _) hx
  exact ⟨a, hL, b, c⟩
theorem lz_any (d : Int) (w : World) (h : W64 d) (h0 : d ≠ 0) :
    Calls Try.prog 47 #[.int .u64 d] w fun e w' => e = .returned (.int .i64 (lzs d : Nat)) ∧ w' = w := by
  have hf := bitLen_facts h h0
  have h1 : (Lib.bitLen d.toNat : Int) ≤ 64 := by omega
  have h2 : (0 : Int) ≤ (Lib.bitLen d.toNat : Int) := by omega
  have hlen : ∀ w, Calls Try.prog 55 #[.int .u64 d] w fun e w' => e = .returned (.int .i64 (Lib.bitLen d.toNat)) ∧ w' = w := by
    intro w
    go_enter Try.func55, Try.ntmps55
    go_wp2_with (go_at_call 59; refine (len64_any d _ h.1 (by have := h.2; omega)).mono ?_; rintro e w' ⟨rfl, rfl⟩)
    go_ret
    exact ⟨rfl, rfl⟩
  go_enter Try.func47, Try.ntmps47
  go_wp2_with (go_at_call 55; refine (hlen _).mono ?_; rintro e w' ⟨rfl, rfl⟩)
  go_ret
  refine ⟨congrArg Ending.returned (congrArg (Value.int IntKind.i64) ?_), rfl⟩
  unfold lzs
  show (64 : Int) - _ = _
  omega
theorem lz64_top (y : Int) (w : World) (h : W64 y) (h0 : 9223372036854775808 ≤ y) :
    Calls Try.prog 60 #[.int .u64 y] w fun e w' => e = .returned (.int .i64 0) ∧ w' = w := by
  have hf := bitLen_facts h (by omega)
  have hL : Lib.bitLen y.toNat = 64 := by
    apply Nat.le_antisymm hf.2.1
    apply Nat.le_of_not_lt
    intro hc
    have h3 : 2 ^ Lib.bitLen y.toNat ≤ 2 ^ 63 := Nat.pow_le_pow_right (by omega) (by omega)
    have := hf.2.2.2
    omega
  have h1 : ((Lib.bitLen y.toNat : Nat) : Int) = 64 := by omega
  clear hf hL
  go_enter Try.func60, Try.ntmps60
  go_wp2_with (go_at_call 59; refine (len64_any y _ h.1 (by have := h.2; omega)).mono ?_; rintro e w' ⟨rfl, rfl⟩)
  go_ret
  refine ⟨congrArg Ending.returned (congrArg (Value.int IntKind.i64) ?_), rfl⟩
  rfl

theorem maskI {a : Int} (h : W64 a) : bits BinOp.and IntKind.u64 a 4294967295 = a % 4294967296 := by
  unfold W64 at h
  obtain ⟨n, rfl⟩ := Int.eq_ofNat_of_zero_le h.1
  rw [M64.maskN n (by omega)]
  omega

theorem or_zero {a : Int} (h : W64 a) : bits BinOp.or IntKind.u64 a 0 = a := by
  unfold W64 at h
  obtain ⟨n, rfl⟩ := Int.eq_ofNat_of_zero_le h.1
  have := bits_or_u64_nat n 0 (by omega) (by omega)
  rw [Nat.or_zero] at this
  exact this

/-- What is left behind a digit, as the walk writes it. -/
theorem un_eq {U l y p : Int} (HD : HalfDone U l y p) (hy : y < 18446744073709551616) :
    ∃ V, IntKind.u64.wrap (IntKind.u64.wrap (IntKind.u64.wrap (U * 4294967296) + l) - IntKind.u64.wrap (p * y)) = V ∧ 0 ≤ V ∧ V < y ∧ Hid (U * 4294967296 + l = p * y + V) := by
  have h1 := HD.le
  have h2 := HD.lt
  rw [Int.add_mul, Int.one_mul] at h2
  refine ⟨U * 4294967296 + l - p * y, ?_, by omega, by omega, (show _ = _ by omega)⟩
  simp only [IntKind.wrap_u64]
  generalize p * y = m at *
  omega
/-- The two digits together. -/
theorem two_digits {hi lo y l1 l0 p q U V : Int} (hy : 0 < y) (hl : lo = l1 * 4294967296 + l0) (h1 : hi * 4294967296 + l1 = p * y + U) (h2 : U * 4294967296 + l0 = q * y + V) (v0 : 0 ≤ V) (v1 : V < y) :
    (hi * 18446744073709551616 + lo) / y = p * 4294967296 + q ∧ (hi * 18446744073709551616 + lo) % y = V := by
  refine div_unique hy v0 v1 ?_
  have e : (p * 4294967296 + q) * y = 4294967296 * (p * y) + q * y := by rw [Int.add_mul, Int.mul_assoc, Int.mul_left_comm]
  rw [e, hl]
  omega

set_option maxHeartbeats 2000000 in
/-- Div64 at a divisor with its top bit set, the high word not zero. -/
theorem div64_pos (hi lo y : Int) (w : World) (h1 : 1 ≤ hi) (h2 : hi < y) (hlo : W64 lo) (hy : 9223372036854775808 ≤ y) (hy' : y < 18446744073709551616) :
    Calls Try.prog 57 #[.int .u64 hi, .int .u64 lo, .int .u64 y] w fun e w' => e = .returned (.tuple #[.int .u64 ((hi * 18446744073709551616 + lo) / y), .int .u64 ((hi * 18446744073709551616 + lo) % y)]) ∧ w' = w := by
  have hyw : W64 y := ⟨by omega, hy'⟩
  have hhw : W64 hi := ⟨by omega, by omega⟩
  obtain ⟨y1, ey1⟩ : ∃ y1, y / 4294967296 = y1 := ⟨_, rfl⟩
  obtain ⟨y0, ey0⟩ : ∃ y0, y % 4294967296 = y0 := ⟨_, rfl⟩
  obtain ⟨l1, el1⟩ : ∃ l1, lo / 4294967296 = l1 := ⟨_, rfl⟩
  obtain ⟨l0, el0⟩ : ∃ l0, lo % 4294967296 = l0 := ⟨_, rfl⟩
  have em : bits BinOp.and IntKind.u64 y 4294967295 = y0 := by rw [maskI hyw, ey0]
  have el : bits BinOp.and IntKind.u64 lo 4294967295 = l0 := by rw [maskI hlo, el0]
  have eo : bits BinOp.or IntKind.u64 hi (lo / 18446744073709551616) = hi := by
    have : lo / 18446744073709551616 = 0 := by unfold W64 at hlo; omega
    rw [this, or_zero hhw]
  have Hy : Hid (y = y1 * 4294967296 + y0) := (show _ = _ by omega)
  have Hl : Hid (lo = l1 * 4294967296 + l0) := (show _ = _ by omega)
  have a1 : 2147483648 ≤ y1 := by omega
  have a2 : y1 < 4294967296 := by omega
  have b1 : 0 ≤ y0 := by omega
  have b2 : y0 < 4294967296 := by omega
  have c1 : 0 ≤ l1 := by have := hlo.1; omega
  have c2 : l1 < 4294967296 := by have := hlo.2; omega
  have d1 : 0 ≤ l0 := by omega
  have d2 : l0 < 4294967296 := by omega
  have g1 : (y == 0) = false := by rw [beq_eq_false_iff_ne]; omega
  have g2 : (hi == 0) = false := by rw [beq_eq_false_iff_ne]; omega
  have g3 : decide (y ≤ hi) = false := decide_eq_false (by omega)
  obtain ⟨I1, p0, p1⟩ := half_init (U := hi) (un := l1) a1 a2 b1 b2 (by omega) (by rw [← Hy.out]; exact h2) c1 c2
  have i0 := I1.q0
  have i1 := I1.q1
  have hlo0 := hlo.1
  have hlo1 := hlo.2
  clear ey0 el0
  go_enter Try.func57, Try.ntmps57
  go_wp2_with (go_at_call 60; refine (lz64_top y _ hyw hy).mono ?_; rintro e w' ⟨rfl, rfl⟩)
  clear em el eo g1 g2 g3 hyw ey1 el1 hhw hlo
  go_loop [15, 16] (fun a b => ∃ q r, a = .int .u64 q ∧ b = .int .u64 r ∧ Half hi l1 y1 y0 q r) (fun _ b => 4294967296 - (intOf b).toNat)
  case atStart => exact ⟨_, _, rfl, rfl, I1⟩
  case round =>
    obtain ⟨q, r, rfl, rfl, H⟩ := hrel
    clear I1 p0 p1 i0 i1
    have q0 := H.q0
    have q1 := H.q1
    have r0 := H.r0
    have r1 := H.r1
    have Hyy : Hid (hi < y1 * 4294967296 + y0) := (show _ < _ by rw [← Hy.out]; exact h2)
    have key : 4294967296 ≤ q ∨ (q < 4294967296 ∧ 4294967296 * r + l1 < q * y0) ∨ (q < 4294967296 ∧ q * y0 ≤ 4294967296 * r + l1) := by omega
    have pm : q < 4294967296 → 0 ≤ q * y0 ∧ q * y0 ≤ 18446744065119617025 := fun h => ⟨Int.mul_nonneg q0 b1, by have := Int.mul_le_mul (show q ≤ 4294967295 by omega) (show y0 ≤ 4294967295 by omega) b1 (by omega); omega⟩
    rcases key with k1 | ⟨k1, k2⟩ | ⟨k1, k2⟩
    · obtain ⟨p, rfl⟩ : ∃ p, q = p + 1 := ⟨q - 1, by omega⟩
      obtain ⟨s0, s1, s2⟩ := half_step a1 a2 b1 b2 Hyy.out c1 c2 H (.inl k1)
      clear pm
      by_cases hb : 4294967296 ≤ r + y1
      · have HD := s2 hb
        clear s1 s2 H
        rw [← Hy.out] at HD
        obtain ⟨U2, eU, u0, u1, HU⟩ := un_eq HD hy'
        have e0 := HD.q0
        have e1 := HD.q1
        have HyyU : Hid (U2 < y1 * 4294967296 + y0) := (show _ < _ by rw [← Hy.out]; exact u1)
        obtain ⟨I2, p0, p1⟩ := half_init (U := U2) (un := l0) a1 a2 b1 b2 u0 HyyU.out d1 d2
        have i0 := I2.q0
        have i1 := I2.q1
        clear HD
        go_wp2
        clear eU
        go_loop [18, 16] (fun a b => ∃ q r, a = .int .u64 q ∧ b = .int .u64 r ∧ Half U2 l0 y1 y0 q r) (fun _ b => 4294967296 - (intOf b).toNat)
        case atStart => exact ⟨_, _, rfl, rfl, I2⟩
        case round =>
          obtain ⟨q, r, rfl, rfl, H⟩ := hrel
          clear I2 p0 p1 i0 i1
          have q0 := H.q0
          have q1 := H.q1
          have r0 := H.r0
          have r1 := H.r1
          have key : 4294967296 ≤ q ∨ (q < 4294967296 ∧ 4294967296 * r + l0 < q * y0) ∨ (q < 4294967296 ∧ q * y0 ≤ 4294967296 * r + l0) := by omega
          have pm : q < 4294967296 → 0 ≤ q * y0 ∧ q * y0 ≤ 18446744065119617025 := fun h => ⟨Int.mul_nonneg q0 b1, by have := Int.mul_le_mul (show q ≤ 4294967295 by omega) (show y0 ≤ 4294967295 by omega) b1 (by omega); omega⟩
          rcases key with k1 | ⟨k1, k2⟩ | ⟨k1, k2⟩
          · obtain ⟨t, rfl⟩ : ∃ t, q = t + 1 := ⟨q - 1, by omega⟩
            obtain ⟨s0, s1, s2⟩ := half_step a1 a2 b1 b2 HyyU.out d1 d2 H (.inl k1)
            clear pm
            by_cases hb : 4294967296 ≤ r + y1
            · have HE := s2 hb
              clear s1 s2 H
              rw [← Hy.out] at HE
              obtain ⟨V, eV, v0, v1, HV⟩ := un_eq HE hy'
              have f0 := HE.q0
              have f1 := HE.q1
              have HF := two_digits (show 0 < y by omega) Hl.out HU.out HV.out v0 v1
              have HFF : Hid ((hi * 18446744073709551616 + lo) / y = p * 4294967296 + t ∧ (hi * 18446744073709551616 + lo) % y = V) := HF
              clear HF HE HU HV Hl Hyy HyyU
              go_wp2
              go_ret2
              exact ⟨by rw [HFF.out.1, HFF.out.2]; rfl, rfl⟩
            · have HE := s1 (by omega)
              clear s1 s2 H
              go_wp2
              go_round
              case rel => exact ⟨_, _, rfl, rfl, HE⟩
              case measure => simp [intOf]; omega
          · have q2 : 1 ≤ q := by
              apply Int.le_of_not_gt
              intro hn
              have : q = 0 := by omega
              subst this
              simp at k2; omega
            obtain ⟨t, rfl⟩ : ∃ t, q = t + 1 := ⟨q - 1, by omega⟩
            obtain ⟨s0, s1, s2⟩ := half_step a1 a2 b1 b2 HyyU.out d1 d2 H (.inr k2)
            obtain ⟨pm0, pm1⟩ := pm k1
            clear pm
            by_cases hb : 4294967296 ≤ r + y1
            · have HE := s2 hb
              clear s1 s2 H
              rw [← Hy.out] at HE
              obtain ⟨V, eV, v0, v1, HV⟩ := un_eq HE hy'
              have f0 := HE.q0
              have f1 := HE.q1
              have HF := two_digits (show 0 < y by omega) Hl.out HU.out HV.out v0 v1
              have HFF : Hid ((hi * 18446744073709551616 + lo) / y = p * 4294967296 + t ∧ (hi * 18446744073709551616 + lo) % y = V) := HF
              clear HF HE HU HV Hl Hyy HyyU
              go_wp2
              go_ret2
              exact ⟨by rw [HFF.out.1, HFF.out.2]; rfl, rfl⟩
            · have HE := s1 (by omega)
              clear s1 s2 H
              go_wp2
              go_round
              case rel => exact ⟨_, _, rfl, rfl, HE⟩
              case measure => simp [intOf]; omega
          · obtain ⟨t, rfl⟩ : ∃ t, t = q := ⟨q, rfl⟩
            have HE := half_exit H k1 k2
            obtain ⟨pm0, pm1⟩ := pm k1
            clear pm H
            rw [← Hy.out] at HE
            obtain ⟨V, eV, v0, v1, HV⟩ := un_eq HE hy'
            have f0 := HE.q0
            have f1 := HE.q1
            have HF := two_digits (show 0 < y by omega) Hl.out HU.out HV.out v0 v1
            have HFF : Hid ((hi * 18446744073709551616 + lo) / y = p * 4294967296 + t ∧ (hi * 18446744073709551616 + lo) % y = V) := HF
            clear HF HE HU HV Hl Hyy HyyU
            go_wp2
            go_ret2
            exact ⟨by rw [HFF.out.1, HFF.out.2]; rfl, rfl⟩
      · have HD := s1 (by omega)
        clear s1 s2 H
        go_wp2
        go_round
        case rel => exact ⟨_, _, rfl, rfl, HD⟩
        case measure => simp [intOf]; omega
    · have q2 : 1 ≤ q := by
        apply Int.le_of_not_gt
        intro hn
        have : q = 0 := by omega
        subst this
        simp at k2; omega
      obtain ⟨p, rfl⟩ : ∃ p, q = p + 1 := ⟨q - 1, by omega⟩
      obtain ⟨s0, s1, s2⟩ := half_step a1 a2 b1 b2 Hyy.out c1 c2 H (.inr k2)
      obtain ⟨pm0, pm1⟩ := pm k1
      clear pm
      by_cases hb : 4294967296 ≤ r + y1
      · have HD := s2 hb
        clear s1 s2 H
        rw [← Hy.out] at HD
        obtain ⟨U2, eU, u0, u1, HU⟩ := un_eq HD hy'
        have e0 := HD.q0
        have e1 := HD.q1
        have HyyU : Hid (U2 < y1 * 4294967296 + y0) := (show _ < _ by rw [← Hy.out]; exact u1)
        obtain ⟨I2, p0, p1⟩ := half_init (U := U2) (un := l0) a1 a2 b1 b2 u0 HyyU.out d1 d2
        have i0 := I2.q0
        have i1 := I2.q1
        clear HD
        go_wp2
        clear eU
        go_loop [18, 16] (fun a b => ∃ q r, a = .int .u64 q ∧ b = .int .u64 r ∧ Half U2 l0 y1 y0 q r) (fun _ b => 4294967296 - (intOf b).toNat)
        case atStart => exact ⟨_, _, rfl, rfl, I2⟩
        case round =>
          obtain ⟨q, r, rfl, rfl, H⟩ := hrel
          clear I2 p0 p1 i0 i1
          have q0 := H.q0
          have q1 := H.q1
          have r0 := H.r0
          have r1 := H.r1
          have key : 4294967296 ≤ q ∨ (q < 4294967296 ∧ 4294967296 * r + l0 < q * y0) ∨ (q < 4294967296 ∧ q * y0 ≤ 4294967296 * r + l0) := by omega
          have pm : q < 4294967296 → 0 ≤ q * y0 ∧ q * y0 ≤ 18446744065119617025 := fun h => ⟨Int.mul_nonneg q0 b1, by have := Int.mul_le_mul (show q ≤ 4294967295 by omega) (show y0 ≤ 4294967295 by omega) b1 (by omega); omega⟩
          rcases key with k1 | ⟨k1, k2⟩ | ⟨k1, k2⟩
          · obtain ⟨t, rfl⟩ : ∃ t, q = t + 1 := ⟨q - 1, by omega⟩
            obtain ⟨s0, s1, s2⟩ := half_step a1 a2 b1 b2 HyyU.out d1 d2 H (.inl k1)
            clear pm
            by_cases hb : 4294967296 ≤ r + y1
            · have HE := s2 hb
              clear s1 s2 H
              rw [← Hy.out] at HE
              obtain ⟨V, eV, v0, v1, HV⟩ := un_eq HE hy'
              have f0 := HE.q0
              have f1 := HE.q1
              have HF := two_digits (show 0 < y by omega) Hl.out HU.out HV.out v0 v1
              have HFF : Hid ((hi * 18446744073709551616 + lo) / y = p * 4294967296 + t ∧ (hi * 18446744073709551616 + lo) % y = V) := HF
              clear HF HE HU HV Hl Hyy HyyU
              go_wp2
              go_ret2
              exact ⟨by rw [HFF.out.1, HFF.out.2]; rfl, rfl⟩
            · have HE := s1 (by omega)
              clear s1 s2 H
              go_wp2
              go_round
              case rel => exact ⟨_, _, rfl, rfl, HE⟩
              case measure => simp [intOf]; omega
          · have q2 : 1 ≤ q := by
              apply Int.le_of_not_gt
              intro hn
              have : q = 0 := by omega
              subst this
              simp at k2; omega
            obtain ⟨t, rfl⟩ : ∃ t, q = t + 1 := ⟨q - 1, by omega⟩
            obtain ⟨s0, s1, s2⟩ := half_step a1 a2 b1 b2 HyyU.out d1 d2 H (.inr k2)
            obtain ⟨pm0, pm1⟩ := pm k1
            clear pm
            by_cases hb : 4294967296 ≤ r + y1
            · have HE := s2 hb
              clear s1 s2 H
              rw [← Hy.out] at HE
              obtain ⟨V, eV, v0, v1, HV⟩ := un_eq HE hy'
              have f0 := HE.q0
              have f1 := HE.q1
              have HF := two_digits (show 0 < y by omega) Hl.out HU.out HV.out v0 v1
              have HFF : Hid ((hi * 18446744073709551616 + lo) / y = p * 4294967296 + t ∧ (hi * 18446744073709551616 + lo) % y = V) := HF
              clear HF HE HU HV Hl Hyy HyyU
              go_wp2
              go_ret2
              exact ⟨by rw [HFF.out.1, HFF.out.2]; rfl, rfl⟩
            · have HE := s1 (by omega)
              clear s1 s2 H
              go_wp2
              go_round
              case rel => exact ⟨_, _, rfl, rfl, HE⟩
              case measure => simp [intOf]; omega
          · obtain ⟨t, rfl⟩ : ∃ t, t = q := ⟨q, rfl⟩
            have HE := half_exit H k1 k2
            obtain ⟨pm0, pm1⟩ := pm k1
            clear pm H
            rw [← Hy.out] at HE
            obtain ⟨V, eV, v0, v1, HV⟩ := un_eq HE hy'
            have f0 := HE.q0
            have f1 := HE.q1
            have HF := two_digits (show 0 < y by omega) Hl.out HU.out HV.out v0 v1
            have HFF : Hid ((hi * 18446744073709551616 + lo) / y = p * 4294967296 + t ∧ (hi * 18446744073709551616 + lo) % y = V) := HF
            clear HF HE HU HV Hl Hyy HyyU
            go_wp2
            go_ret2
            exact ⟨by rw [HFF.out.1, HFF.out.2]; rfl, rfl⟩
      · have HD := s1 (by omega)
        clear s1 s2 H
        go_wp2
        go_round
        case rel => exact ⟨_, _, rfl, rfl, HD⟩
        case measure => simp [intOf]; omega
    · obtain ⟨p, rfl⟩ : ∃ p, p = q := ⟨q, rfl⟩
      have HD := half_exit H k1 k2
      obtain ⟨pm0, pm1⟩ := pm k1
      clear pm H
      rw [← Hy.out] at HD
      obtain ⟨U2, eU, u0, u1, HU⟩ := un_eq HD hy'
      have e0 := HD.q0
      have e1 := HD.q1
      have HyyU : Hid (U2 < y1 * 4294967296 + y0) := (show _ < _ by rw [← Hy.out]; exact u1)
      obtain ⟨I2, p0, p1⟩ := half_init (U := U2) (un := l0) a1 a2 b1 b2 u0 HyyU.out d1 d2
      have i0 := I2.q0
      have i1 := I2.q1
      clear HD
      go_wp2
      clear eU
      go_loop [18, 16] (fun a b => ∃ q r, a = .int .u64 q ∧ b = .int .u64 r ∧ Half U2 l0 y1 y0 q r) (fun _ b => 4294967296 - (intOf b).toNat)
      case atStart => exact ⟨_, _, rfl, rfl, I2⟩
      case round =>
        obtain ⟨q, r, rfl, rfl, H⟩ := hrel
        clear I2 p0 p1 i0 i1
        have q0 := H.q0
        have q1 := H.q1
        have r0 := H.r0
        have r1 := H.r1
        have key : 4294967296 ≤ q ∨ (q < 4294967296 ∧ 4294967296 * r + l0 < q * y0) ∨ (q < 4294967296 ∧ q * y0 ≤ 4294967296 * r + l0) := by omega
        have pm : q < 4294967296 → 0 ≤ q * y0 ∧ q * y0 ≤ 18446744065119617025 := fun h => ⟨Int.mul_nonneg q0 b1, by have := Int.mul_le_mul (show q ≤ 4294967295 by omega) (show y0 ≤ 4294967295 by omega) b1 (by omega); omega⟩
        rcases key with k1 | ⟨k1, k2⟩ | ⟨k1, k2⟩
        · obtain ⟨t, rfl⟩ : ∃ t, q = t + 1 := ⟨q - 1, by omega⟩
          obtain ⟨s0, s1, s2⟩ := half_step a1 a2 b1 b2 HyyU.out d1 d2 H (.inl k1)
          clear pm
          by_cases hb : 4294967296 ≤ r + y1
          · have HE := s2 hb
            clear s1 s2 H
            rw [← Hy.out] at HE
            obtain ⟨V, eV, v0, v1, HV⟩ := un_eq HE hy'
            have f0 := HE.q0
            have f1 := HE.q1
            have HF := two_digits (show 0 < y by omega) Hl.out HU.out HV.out v0 v1
            have HFF : Hid ((hi * 18446744073709551616 + lo) / y = p * 4294967296 + t ∧ (hi * 18446744073709551616 + lo) % y = V) := HF
            clear HF HE HU HV Hl Hyy HyyU
            go_wp2
            go_ret2
            exact ⟨by rw [HFF.out.1, HFF.out.2]; rfl, rfl⟩
          · have HE := s1 (by omega)
            clear s1 s2 H
            go_wp2
            go_round
            case rel => exact ⟨_, _, rfl, rfl, HE⟩
            case measure => simp [intOf]; omega
        · have q2 : 1 ≤ q := by
            apply Int.le_of_not_gt
            intro hn
            have : q = 0 := by omega
            subst this
            simp at k2; omega
          obtain ⟨t, rfl⟩ : ∃ t, q = t + 1 := ⟨q - 1, by omega⟩
          obtain ⟨s0, s1, s2⟩ := half_step a1 a2 b1 b2 HyyU.out d1 d2 H (.inr k2)
          obtain ⟨pm0, pm1⟩ := pm k1
          clear pm
          by_cases hb : 4294967296 ≤ r + y1
          · have HE := s2 hb
            clear s1 s2 H
            rw [← Hy.out] at HE
            obtain ⟨V, eV, v0, v1, HV⟩ := un_eq HE hy'
            have f0 := HE.q0
            have f1 := HE.q1
            have HF := two_digits (show 0 < y by omega) Hl.out HU.out HV.out v0 v1
            have HFF : Hid ((hi * 18446744073709551616 + lo) / y = p * 4294967296 + t ∧ (hi * 18446744073709551616 + lo) % y = V) := HF
            clear HF HE HU HV Hl Hyy HyyU
            go_wp2
            go_ret2
            exact ⟨by rw [HFF.out.1, HFF.out.2]; rfl, rfl⟩
          · have HE := s1 (by omega)
            clear s1 s2 H
            go_wp2
            go_round
            case rel => exact ⟨_, _, rfl, rfl, HE⟩
            case measure => simp [intOf]; omega
        · obtain ⟨t, rfl⟩ : ∃ t, t = q := ⟨q, rfl⟩
          have HE := half_exit H k1 k2
          obtain ⟨pm0, pm1⟩ := pm k1
          clear pm H
          rw [← Hy.out] at HE
          obtain ⟨V, eV, v0, v1, HV⟩ := un_eq HE hy'
          have f0 := HE.q0
          have f1 := HE.q1
          have HF := two_digits (show 0 < y by omega) Hl.out HU.out HV.out v0 v1
          have HFF : Hid ((hi * 18446744073709551616 + lo) / y = p * 4294967296 + t ∧ (hi * 18446744073709551616 + lo) % y = V) := HF
          clear HF HE HU HV Hl Hyy HyyU
          go_wp2
          go_ret2
          exact ⟨by rw [HFF.out.1, HFF.out.2]; rfl, rfl⟩
end Go.Proofs.Qxb6003414a

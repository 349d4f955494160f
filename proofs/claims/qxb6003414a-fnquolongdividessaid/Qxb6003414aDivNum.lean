/-
  PLAIN NUMBERS for the reciprocal of Moeller and Granlund and for the division of two words by one.
-/
import Derived.Test.Qxb6003414aNum
namespace Go.Proofs.Qxb6003414a
set_option linter.unusedSimpArgs false

/-- What is known of a divisor's reciprocal: v = floor((2^128 - 1) / d) - 2^64, d's top bit set. -/
structure Recip (d v : Int) : Prop where
  lo : 9223372036854775808 ≤ d
  hi : d < 18446744073709551616
  v0 : 0 ≤ v
  v1 : v < 18446744073709551616
  le : (18446744073709551616 + v) * d ≤ 340282366920938463463374607431768211455
  lt : 340282366920938463463374607431768211455 < (18446744073709551616 + v + 1) * d

/-- THE ESTIMATE: with (2^64 + v) u1 + u0 = q1 2^64 + q0, the number rt = u1 2^64 + u0 - (q1 + 1) d lies where two corrections of one suffice. -/
theorem mg_bounds {d v u1 u0 q1 q0 : Int} (R : Recip d v) (h1 : 0 ≤ u1) (h1' : u1 < d) (h0 : W64 u0) (hq0 : W64 q0)
    (hq : q1 * 18446744073709551616 + q0 = (18446744073709551616 + v) * u1 + u0) :
    q0 - 18446744073709551616 < u1 * 18446744073709551616 + u0 - (q1 + 1) * d ∧
    -d ≤ u1 * 18446744073709551616 + u0 - (q1 + 1) * d ∧
    (u1 * 18446744073709551616 + u0 - (q1 + 1) * d < 18446744073709551616 - d ∨ u1 * 18446744073709551616 + u0 - (q1 + 1) * d < q0) ∧
    0 ≤ q1 ∧ q1 < 18446744073709551616 := by
  obtain ⟨dlo, dhi, v0, v1, le, lt⟩ := R
  unfold W64 at h0 hq0
  -- the products
  have F1 : 18446744073709551616 * (d * q1) + d * q0 = 18446744073709551616 * (d * u1) + d * (v * u1) + d * u0 := by
    have h : d * (q1 * 18446744073709551616 + q0) = d * ((18446744073709551616 + v) * u1 + u0) := by rw [hq]
    simp only [Int.mul_add, Int.add_mul, Int.mul_sub, Int.sub_mul, Int.mul_assoc, Int.mul_comm, Int.mul_left_comm, Int.mul_one, Int.one_mul] at h ⊢
    omega
  have kk0 : 0 ≤ 340282366920938463463374607431768211456 - (18446744073709551616 + v) * d := by omega
  have kk1 : 340282366920938463463374607431768211456 - (18446744073709551616 + v) * d ≤ d := by
    rw [Int.add_mul (18446744073709551616 + v) 1 d, Int.one_mul] at lt
    omega
  have F2 : 0 ≤ 340282366920938463463374607431768211456 * u1 - 18446744073709551616 * (d * u1) - d * (v * u1) := by
    have h := Int.mul_nonneg h1 kk0
    simp only [Int.mul_add, Int.add_mul, Int.mul_sub, Int.sub_mul, Int.mul_assoc, Int.mul_comm, Int.mul_left_comm, Int.mul_one, Int.one_mul] at h ⊢
    omega
  have F3 : 0 ≤ 18446744073709551616 * u0 - d * u0 := by
    have h : 0 ≤ u0 * (18446744073709551616 - d) := Int.mul_nonneg h0.1 (by omega)
    simp only [Int.mul_add, Int.add_mul, Int.mul_sub, Int.sub_mul, Int.mul_assoc, Int.mul_comm, Int.mul_left_comm, Int.mul_one, Int.one_mul] at h ⊢
    omega
  have F4 : 0 < 340282366920938463463374607431768211456 - 18446744073709551616 * d - 18446744073709551616 * q0 + d * q0 := by
    have h : 0 < (18446744073709551616 - q0) * (18446744073709551616 - d) := Int.mul_pos (by omega) (by omega)
    simp only [Int.mul_add, Int.add_mul, Int.mul_sub, Int.sub_mul, Int.mul_assoc, Int.mul_comm, Int.mul_left_comm, Int.mul_one, Int.one_mul] at h ⊢
    omega
  have F5 : 0 ≤ d * q0 := Int.mul_nonneg (by omega) hq0.1
  have F6 : 340282366920938463463374607431768211456 * u1 - 18446744073709551616 * (d * u1) - d * (v * u1) ≤ d * d - d := by
    have h : u1 * (340282366920938463463374607431768211456 - (18446744073709551616 + v) * d) ≤ (d - 1) * d := Int.mul_le_mul (by omega) kk1 kk0 (by omega)
    simp only [Int.mul_add, Int.add_mul, Int.mul_sub, Int.sub_mul, Int.mul_assoc, Int.mul_comm, Int.mul_left_comm, Int.mul_one, Int.one_mul] at h ⊢
    omega
  have F7 : 0 ≤ 340282366920938463444927863358058659840 - 18446744073709551615 * d - 18446744073709551616 * u0 + d * u0 := by
    have h : 0 ≤ (18446744073709551615 - u0) * (18446744073709551616 - d) := Int.mul_nonneg (by omega) (by omega)
    simp only [Int.mul_add, Int.add_mul, Int.mul_sub, Int.sub_mul, Int.mul_assoc, Int.mul_comm, Int.mul_left_comm, Int.mul_one, Int.one_mul] at h ⊢
    omega
  have F8 : 0 ≤ v * u1 := Int.mul_nonneg v0 h1
  have F9 : 18446744073709551616 * u1 + v * u1 + 18446744073709551616 + v ≤ 340282366920938463463374607431768211455 := by
    have h : (18446744073709551616 + v) * (u1 + 1) ≤ (18446744073709551616 + v) * d := Int.mul_le_mul_of_nonneg_left (by omega) (by omega)
    have h2 := Int.le_trans h le
    simp only [Int.mul_add, Int.add_mul, Int.mul_sub, Int.sub_mul, Int.mul_assoc, Int.mul_comm, Int.mul_left_comm, Int.mul_one, Int.one_mul] at h2 ⊢
    omega
  have F10 : q0 ≤ 18446744073709551616 - d → d * q0 ≤ 18446744073709551616 * d - d * d := by
    intro hc
    have h : 0 ≤ (18446744073709551616 - d - q0) * d := Int.mul_nonneg (by omega) (by omega)
    simp only [Int.mul_add, Int.add_mul, Int.mul_sub, Int.sub_mul, Int.mul_assoc, Int.mul_comm, Int.mul_left_comm, Int.mul_one, Int.one_mul] at h ⊢
    omega
  have F11 : 18446744073709551616 - d < q0 → 0 ≤ 18446744073709551616 * q0 - d * q0 - (340282366920938463463374607431768211456 - 36893488147419103232 * d + d * d) := by
    intro hc
    have h : 0 ≤ (q0 - (18446744073709551616 - d)) * (18446744073709551616 - d) := Int.mul_nonneg (by omega) (by omega)
    simp only [Int.mul_add, Int.add_mul, Int.mul_sub, Int.sub_mul, Int.mul_assoc, Int.mul_comm, Int.mul_left_comm, Int.mul_one, Int.one_mul] at h ⊢
    omega
  rw [Int.add_mul 18446744073709551616 v u1] at hq
  rw [Int.add_mul q1 1 d, Int.one_mul, Int.mul_comm q1 d]
  clear le lt kk0 kk1
  generalize d * (v * u1) = dvu at *
  generalize d * d = dd at *
  generalize d * q1 = dq1 at *
  generalize d * q0 = dq0 at *
  generalize d * u0 = du0 at *
  generalize d * u1 = du1 at *
  generalize v * u1 = vu at *
  refine ⟨by omega, by omega, ?_, by omega, by omega⟩
  by_cases hc : q0 ≤ 18446744073709551616 - d
  · have := F10 hc
    left; omega
  · have := F11 (by omega)
    right; omega

theorem div_unique {U d x y : Int} (hd : 0 < d) (h0 : 0 ≤ y) (h1 : y < d) (h : x * d + y = U) : U / d = x ∧ U % d = y := by
  have e : y + d * x = U := by rw [Int.mul_comm]; omega
  exact (Int.ediv_emod_unique hd).2 ⟨e, h0, h1⟩

/-- What the code's own steps come to. -/
theorem mg_quo {d v u1 u0 l q r0 : Int} (R : Recip d v) (h1 : 0 ≤ u1) (h1' : u1 < d) (h0 : W64 u0)
    (hl : l = addLo (mulLo v u1) u0 0) (hq : q = addLo (mulHi v u1) (u1 + 1) (addHi (mulLo v u1) u0 0)) (hr : r0 = (u0 - (q * d) % 18446744073709551616) % 18446744073709551616) :
    (l < r0 →
      (d ≤ (r0 + d) % 18446744073709551616 → ((q - 1) % 18446744073709551616 + 1) % 18446744073709551616 = (u1 * 18446744073709551616 + u0) / d ∧ ((r0 + d) % 18446744073709551616 - d) % 18446744073709551616 = (u1 * 18446744073709551616 + u0) % d) ∧
      ((r0 + d) % 18446744073709551616 < d → (q - 1) % 18446744073709551616 = (u1 * 18446744073709551616 + u0) / d ∧ (r0 + d) % 18446744073709551616 = (u1 * 18446744073709551616 + u0) % d)) ∧
    (r0 ≤ l →
      (d ≤ r0 → (q + 1) % 18446744073709551616 = (u1 * 18446744073709551616 + u0) / d ∧ (r0 - d) % 18446744073709551616 = (u1 * 18446744073709551616 + u0) % d) ∧
      (r0 < d → q = (u1 * 18446744073709551616 + u0) / d ∧ r0 = (u1 * 18446744073709551616 + u0) % d)) := by
  have hd := R.lo
  have hd' := R.hi
  have hv : W64 v := ⟨R.v0, R.v1⟩
  have hu : W64 u1 := ⟨h1, by omega⟩
  have m := mul_facts hv hu
  have a := add_facts (c := 0) m.1 h0 (by omega) (by omega)
  rw [← hl] at a
  obtain ⟨q1, hq1⟩ : ∃ q1, q1 = mulHi v u1 + u1 + addHi (mulLo v u1) u0 0 := ⟨_, rfl⟩
  have hmain : q1 * 18446744073709551616 + l = (18446744073709551616 + v) * u1 + u0 := by
    rw [Int.add_mul, hq1]; omega
  have b := mg_bounds R h1 h1' h0 a.1 hmain
  have hqm : q = (q1 + 1) % 18446744073709551616 := by rw [hq, hq1]; unfold addLo; congr 1; omega
  obtain ⟨rt, hrt⟩ : ∃ rt, rt = u1 * 18446744073709551616 + u0 - (q1 + 1) * d := ⟨_, rfl⟩
  rw [← hrt] at b
  have hr2 : r0 = rt % 18446744073709551616 := by
    have e : (q * d) % 18446744073709551616 = ((q1 + 1) * d) % 18446744073709551616 := by rw [hqm, Int.mul_emod, Int.emod_emod, ← Int.mul_emod]
    rw [hr, e, hrt]
    generalize (q1 + 1) * d = p
    omega
  have hU0 : 0 ≤ u1 * 18446744073709551616 + u0 := by unfold W64 at h0; omega
  have hlw := a.1
  unfold W64 at hlw h0
  -- bounds on the true quotient: (x d <= U) gives x < 2^64
  have qlt : ∀ x : Int, x * d ≤ u1 * 18446744073709551616 + u0 → x < 18446744073709551616 := by
    intro x hx
    apply Int.lt_of_not_ge
    intro hc
    have h3 : 18446744073709551616 * d ≤ x * d := Int.mul_le_mul_of_nonneg_right hc (by omega)
    omega
  have e1 : (q1 + 1) * d = u1 * 18446744073709551616 + u0 - rt := by omega
  have e0 : q1 * d = u1 * 18446744073709551616 + u0 - rt - d := by rw [Int.add_mul, Int.one_mul] at e1; omega
  have e2 : (q1 + 1 + 1) * d = u1 * 18446744073709551616 + u0 - rt + d := by rw [Int.add_mul, Int.one_mul]; omega
  clear hmain hq hl hr a m hu hv hq1
  by_cases hn : rt < 0
  · have hr0 : r0 = rt + 18446744073709551616 := by omega
    have r1 : (r0 + d) % 18446744073709551616 = rt + d := by omega
    have hqq : (q - 1) % 18446744073709551616 = q1 := by omega
    rw [r1, hqq]
    have u := div_unique (U := u1 * 18446744073709551616 + u0) (d := d) (x := q1) (y := rt + d) (by omega) (by omega) (by omega) (by omega)
    refine ⟨fun _ => ⟨fun h => by omega, fun _ => ⟨u.1.symm, u.2.symm⟩⟩, fun h => by omega⟩
  · have hr0 : r0 = rt := by omega
    have hlt1 := qlt (q1 + 1) (by omega)
    have hqq : q = q1 + 1 := by omega
    subst hr0
    refine ⟨fun hA => ?_, fun hB => ⟨fun hC => ?_, fun hC => ?_⟩⟩
    · have r1 : (r0 + d) % 18446744073709551616 = r0 + d := by omega
      have u := div_unique (U := u1 * 18446744073709551616 + u0) (d := d) (x := q1 + 1) (y := r0) (by omega) (by omega) (by omega) (by omega)
      rw [u.1, u.2, r1]
      refine ⟨fun _ => ⟨by omega, by omega⟩, fun h => by omega⟩
    · have hlt2 := qlt (q1 + 1 + 1) (by omega)
      have u := div_unique (U := u1 * 18446744073709551616 + u0) (d := d) (x := q1 + 1 + 1) (y := r0 - d) (by omega) (by omega) (by omega) (by omega)
      rw [u.1, u.2]
      exact ⟨by omega, by omega⟩
    · have u := div_unique (U := u1 * 18446744073709551616 + u0) (d := d) (x := q1 + 1) (y := r0) (by omega) (by omega) (by omega) (by omega)
      rw [u.1, u.2]
      exact ⟨by omega, rfl⟩

/-! ### One digit of 32 bits of a division by a word whose top bit is set -/
/-- What holds while the digit's estimate is brought down. -/
structure Half (U un y1 y0 q r : Int) : Prop where
  q0 : 0 ≤ q
  q1 : q ≤ 4294967297
  r0 : 0 ≤ r
  r1 : r < 4294967296
  eq : q * y1 + r = U
  lt : U * 4294967296 + un < (q + 1) * (y1 * 4294967296 + y0)
/-- The digit is the right one. -/
structure HalfDone (U un y q : Int) : Prop where
  q0 : 0 ≤ q
  q1 : q < 4294967296
  le : q * y ≤ U * 4294967296 + un
  lt : U * 4294967296 + un < (q + 1) * y

theorem half_init {U un y1 y0 : Int} (a1 : 2147483648 ≤ y1) (a2 : y1 < 4294967296) (b1 : 0 ≤ y0) (b2 : y0 < 4294967296) (c1 : 0 ≤ U) (c2 : U < y1 * 4294967296 + y0) (d1 : 0 ≤ un) (d2 : un < 4294967296) :
    Half U un y1 y0 (U / y1) (U - U / y1 * y1) ∧ 0 ≤ U / y1 * y1 ∧ U / y1 * y1 ≤ U := by
  have e := Int.emod_add_mul_ediv U y1
  have m0 := Int.emod_nonneg U (show y1 ≠ 0 by omega)
  have m1 := Int.emod_lt_of_pos U (show 0 < y1 by omega)
  have n0 : 0 ≤ U / y1 := Int.ediv_nonneg c1 (by omega)
  generalize U / y1 = q at *
  generalize U % y1 = r at *
  have p0 : 0 ≤ q * y1 := Int.mul_nonneg n0 (by omega)
  rw [Int.mul_comm y1 q] at e
  have hq : q ≤ 4294967297 := by
    apply Int.le_of_not_gt
    intro hc
    have : 4294967298 * y1 ≤ q * y1 := Int.mul_le_mul_of_nonneg_right (by omega) (by omega)
    omega
  have py : 0 ≤ q * y0 := Int.mul_nonneg n0 b1
  refine ⟨⟨n0, hq, by omega, by omega, by omega, ?_⟩, p0, by omega⟩
  have ee : (q + 1) * (y1 * 4294967296 + y0) = 4294967296 * (q * y1) + q * y0 + y1 * 4294967296 + y0 := by
    simp only [Int.mul_add, Int.add_mul, Int.mul_sub, Int.sub_mul, Int.mul_assoc, Int.mul_comm, Int.mul_left_comm, Int.mul_one, Int.one_mul]
    omega
  rw [ee]
  omega

theorem half_exit {U un y1 y0 q r : Int} (H : Half U un y1 y0 q r) (hq : q < 4294967296) (h : q * y0 ≤ 4294967296 * r + un) : HalfDone U un (y1 * 4294967296 + y0) q := by
  refine ⟨H.q0, hq, ?_, H.lt⟩
  have e := H.eq
  have ee : q * (y1 * 4294967296 + y0) = 4294967296 * (q * y1) + q * y0 := by
    simp only [Int.mul_add, Int.add_mul, Int.mul_sub, Int.sub_mul, Int.mul_assoc, Int.mul_comm, Int.mul_left_comm, Int.mul_one, Int.one_mul]
  rw [ee]
  omega

/-- The estimate is too great: one less. -/
theorem half_step {U un y1 y0 q r : Int} (a1 : 2147483648 ≤ y1) (a2 : y1 < 4294967296) (b1 : 0 ≤ y0) (b2 : y0 < 4294967296) (c2 : U < y1 * 4294967296 + y0) (d1 : 0 ≤ un) (d2 : un < 4294967296)
    (H : Half U un y1 y0 (q + 1) r) (hc : 4294967296 ≤ q + 1 ∨ 4294967296 * r + un < (q + 1) * y0) :
    0 ≤ q ∧ (r + y1 < 4294967296 → Half U un y1 y0 q (r + y1)) ∧ (4294967296 ≤ r + y1 → HalfDone U un (y1 * 4294967296 + y0) q) := by
  obtain ⟨h1, h2, h3, h4, h5, h6⟩ := H
  have hq : 0 ≤ q := by
    rcases hc with hc | hc
    · omega
    · apply Int.le_of_not_gt
      intro hn
      have : q = -1 := by omega
      subst this
      simp at hc; omega
  have e5 : q * y1 + (r + y1) = U := by rw [Int.add_mul, Int.one_mul] at h5; omega
  have hstrict : U * 4294967296 + un < (q + 1) * (y1 * 4294967296 + y0) := by
    rcases hc with hc | hc
    · have h7 : 4294967296 * (y1 * 4294967296 + y0) ≤ (q + 1) * (y1 * 4294967296 + y0) := Int.mul_le_mul_of_nonneg_right hc (by omega)
      omega
    · have ee : (q + 1) * (y1 * 4294967296 + y0) = 4294967296 * ((q + 1) * y1) + (q + 1) * y0 := by
        simp only [Int.mul_add, Int.add_mul, Int.mul_sub, Int.sub_mul, Int.mul_assoc, Int.mul_comm, Int.mul_left_comm, Int.mul_one, Int.one_mul]
        try omega
      rw [ee]
      omega
  refine ⟨hq, fun hr => ⟨hq, by omega, by omega, hr, e5, hstrict⟩, fun hr => ?_⟩
  have hle : q * (y1 * 4294967296 + y0) ≤ U * 4294967296 + un := by
    have h8 : q * y0 ≤ 4294967296 * 4294967295 := Int.mul_le_mul (by omega) (by omega) b1 (by omega)
    have ee : q * (y1 * 4294967296 + y0) = 4294967296 * (q * y1) + q * y0 := by
      simp only [Int.mul_add, Int.add_mul, Int.mul_sub, Int.sub_mul, Int.mul_assoc, Int.mul_comm, Int.mul_left_comm, Int.mul_one, Int.one_mul]
    rw [ee]
    omega
  refine ⟨hq, ?_, hle, hstrict⟩
  apply Int.lt_of_not_ge
  intro hn
  have h9 : 4294967296 * (y1 * 4294967296 + y0) ≤ q * (y1 * 4294967296 + y0) := Int.mul_le_mul_of_nonneg_right hn (by omega)
  omega
end Go.Proofs.Qxb6003414a

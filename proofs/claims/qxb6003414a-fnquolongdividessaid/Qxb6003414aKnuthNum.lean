/-
  PLAIN NUMBERS for the long division (Knuth's Algorithm D).
-/
import Derived.Test.Qxb6003414aNum
namespace Go.Proofs.Qxb6003414a
set_option linter.unusedSimpArgs false

/-- The divisor and the window, seen from above: the divisor D is top, next and what lies beneath (below G); the window W is u2, u1, u0 and what lies beneath. G = 2^(64 (n - 2)). -/
structure Win (D W top next u2 u1 u0 G dl wl : Int) : Prop where
  g : 0 < G
  eD : D = (top * 18446744073709551616 + next) * G + dl
  eW : W = ((u2 * 18446744073709551616 + u1) * 18446744073709551616 + u0) * G + wl
  t0 : 9223372036854775808 ≤ top
  t1 : top < 18446744073709551616
  n0 : 0 ≤ next
  n1 : next < 18446744073709551616
  a0 : 0 ≤ u2
  a1 : u2 < 18446744073709551616
  b0 : 0 ≤ u1
  b1 : u1 < 18446744073709551616
  c0 : 0 ≤ u0
  c1 : u0 < 18446744073709551616
  dl0 : 0 ≤ dl
  dl1 : dl < G
  wl0 : 0 ≤ wl
  wl1 : wl < G
  lt : W < D * 18446744073709551616

/-- While the estimate is brought down: never below the true digit. -/
structure Est (D W top u2 u1 q r o : Int) : Prop where
  q0 : 0 ≤ q
  q1 : q < 18446744073709551616
  r0 : 0 ≤ r
  r1 : r < 18446744073709551616
  o0 : 0 ≤ o
  o1 : o ≤ 1
  eq : q * top + r + 18446744073709551616 * o = u2 * 18446744073709551616 + u1
  lt : W < (q + 1) * D

/-- The estimate as it goes into the product: at most one too great. -/
structure Fit (D W q : Int) : Prop where
  q0 : 0 ≤ q
  q1 : q < 18446744073709551616
  lt : W < (q + 1) * D
  le : (q - 1) * D < W + 1

theorem Win.pos {D W top next u2 u1 u0 G dl wl : Int} (h : Win D W top next u2 u1 u0 G dl wl) : 0 < D := by
  rw [h.eD]
  have h1 : 0 < (top * 18446744073709551616 + next) * G := Int.mul_pos (by have := h.t0; have := h.n0; omega) h.g
  have := h.dl0
  omega
/-- u2 is no greater than top. -/
theorem Win.top_le {D W top next u2 u1 u0 G dl wl : Int} (h : Win D W top next u2 u1 u0 G dl wl) : u2 ≤ top := by
  apply Int.le_of_not_gt
  intro hc
  have hlt := h.lt
  rw [h.eD, h.eW] at hlt
  have e : ((top + 1) * 18446744073709551616) * 18446744073709551616 * G ≤ ((u2 * 18446744073709551616 + u1) * 18446744073709551616 + u0) * G :=
    Int.mul_le_mul_of_nonneg_right (by have := h.b0; have := h.c0; omega) (Int.le_of_lt h.g)
  have e2 : ((top * 18446744073709551616 + next) * G + dl) * 18446744073709551616 ≤ ((top + 1) * 18446744073709551616) * 18446744073709551616 * G := by
    have h3 : (top * 18446744073709551616 + next + 1) * G ≤ ((top + 1) * 18446744073709551616) * G := Int.mul_le_mul_of_nonneg_right (by have := h.n1; omega) (Int.le_of_lt h.g)
    rw [Int.add_mul (top * 18446744073709551616 + next) 1 G, Int.one_mul] at h3
    have h4 := h.dl1
    have e5 : ((top + 1) * 18446744073709551616) * 18446744073709551616 * G = (((top + 1) * 18446744073709551616) * G) * 18446744073709551616 := by
      rw [Int.mul_assoc ((top + 1) * 18446744073709551616) 18446744073709551616 G, Int.mul_comm 18446744073709551616 G, ← Int.mul_assoc]
    rw [e5]
    omega
  have := h.wl0
  omega

/-- The first estimate: two words by one. -/
theorem est_div {D W top next u2 u1 u0 G dl wl : Int} (h : Win D W top next u2 u1 u0 G dl wl) (hlt : u2 < top) :
    Est D W top u2 u1 ((u2 * 18446744073709551616 + u1) / top) ((u2 * 18446744073709551616 + u1) % top) 0 := by
  have t0 := h.t0
  have t1 := h.t1
  have e := Int.emod_add_mul_ediv (u2 * 18446744073709551616 + u1) top
  have m0 := Int.emod_nonneg (u2 * 18446744073709551616 + u1) (show top ≠ 0 by omega)
  have m1 := Int.emod_lt_of_pos (u2 * 18446744073709551616 + u1) (show 0 < top by omega)
  have n0 : 0 ≤ (u2 * 18446744073709551616 + u1) / top := Int.ediv_nonneg (by have := h.a0; have := h.b0; omega) (by omega)
  have n1 : (u2 * 18446744073709551616 + u1) / top < 18446744073709551616 := Int.ediv_lt_of_lt_mul (by omega) (by have := h.b1; omega)
  generalize (u2 * 18446744073709551616 + u1) / top = q at *
  generalize (u2 * 18446744073709551616 + u1) % top = r at *
  rw [Int.mul_comm top q] at e
  refine ⟨n0, n1, m0, by omega, by omega, by omega, by omega, ?_⟩
  -- (q + 1) D >= (q + 1) top B G >= (u2 B + u1 + 1) B G > W
  rw [h.eW, h.eD]
  have k1 : (u2 * 18446744073709551616 + u1 + 1) ≤ (q + 1) * top := by rw [Int.add_mul, Int.one_mul]; omega
  have k2 : (u2 * 18446744073709551616 + u1 + 1) * (18446744073709551616 * G) ≤ (q + 1) * top * (18446744073709551616 * G) := Int.mul_le_mul_of_nonneg_right k1 (by have := h.g; omega)
  have k3 : (q + 1) * (top * 18446744073709551616 * G) ≤ (q + 1) * ((top * 18446744073709551616 + next) * G + dl) := by
    refine Int.mul_le_mul_of_nonneg_left ?_ (by omega)
    rw [Int.add_mul (top * 18446744073709551616) next G]
    have := Int.mul_nonneg h.n0 (Int.le_of_lt h.g)
    have := h.dl0
    omega
  have k4 : (u0 + 1) * G ≤ 18446744073709551616 * G := Int.mul_le_mul_of_nonneg_right (by have := h.c1; omega) (Int.le_of_lt h.g)
  have w1 := h.wl1
  have e5 : (q + 1) * (top * 18446744073709551616 * G) = (q + 1) * top * (18446744073709551616 * G) := by rw [Int.mul_assoc top, ← Int.mul_assoc (q + 1) top]
  rw [e5] at k3
  have e6 : ((u2 * 18446744073709551616 + u1) * 18446744073709551616 + u0) * G = (u2 * 18446744073709551616 + u1) * (18446744073709551616 * G) + u0 * G := by rw [Int.add_mul, Int.mul_assoc (u2 * 18446744073709551616 + u1)]
  rw [e6]
  rw [Int.add_mul (u2 * 18446744073709551616 + u1) 1, Int.one_mul] at k2
  rw [Int.add_mul u0 1 G, Int.one_mul] at k4
  omega

/-- The first estimate where u2 = top: the greatest word. -/
theorem est_max {D W top next u2 u1 u0 G dl wl : Int} (h : Win D W top next u2 u1 u0 G dl wl) (hge : top ≤ u2) :
    Est D W top u2 u1 18446744073709551615 (addLo u1 top 0) (addHi u1 top 0) := by
  have hu := h.top_le
  have : u2 = top := by omega
  subst this
  have f := add_facts (x := u1) (y := u2) (c := 0) ⟨h.b0, h.b1⟩ ⟨h.a0, h.a1⟩ (by omega) (by omega)
  obtain ⟨f1, f2, f3, f4⟩ := f
  refine ⟨by omega, by omega, f1.1, f1.2, f2, f3, by omega, ?_⟩
  have := h.lt
  have e : (18446744073709551615 + 1) * D = D * 18446744073709551616 := by rw [Int.mul_comm]; rfl
  rw [e]; exact this

/-- Too great: one less. -/
theorem est_step {D W top next u2 u1 u0 G dl wl q r : Int} (h : Win D W top next u2 u1 u0 G dl wl) (E : Est D W top u2 u1 q r 0)
    (hc : r * 18446744073709551616 + u0 < q * next) : 1 ≤ q ∧ Est D W top u2 u1 (q - 1) (addLo r top 0) (addHi r top 0) := by
  obtain ⟨q0, q1, r0, r1, o0, o1, eq, lt⟩ := E
  have hq : 1 ≤ q := by
    apply Int.le_of_not_gt
    intro hn
    have : q = 0 := by omega
    subst this
    have := h.c0
    rw [Int.zero_mul] at hc
    omega
  have f := add_facts (x := r) (y := top) (c := 0) ⟨r0, r1⟩ ⟨by have := h.t0; omega, h.t1⟩ (by omega) (by omega)
  obtain ⟨f1, f2, f3, f4⟩ := f
  refine ⟨hq, ⟨by omega, by omega, f1.1, f1.2, f2, f3, ?_, ?_⟩⟩
  · rw [Int.sub_mul, Int.one_mul]; omega
  · -- q D >= q (top B + next) G >= (U3 + 1) G > W
    have e0 : q - 1 + 1 = q := by omega
    rw [e0, h.eW, h.eD]
    have k1 : (u2 * 18446744073709551616 + u1) * 18446744073709551616 + u0 + 1 ≤ q * (top * 18446744073709551616 + next) := by
      rw [Int.mul_add, ← Int.mul_assoc q top]; omega
    have k2 : ((u2 * 18446744073709551616 + u1) * 18446744073709551616 + u0 + 1) * G ≤ q * (top * 18446744073709551616 + next) * G := Int.mul_le_mul_of_nonneg_right k1 (Int.le_of_lt h.g)
    have k3 := Int.mul_nonneg q0 h.dl0
    rw [Int.add_mul _ 1 G, Int.one_mul] at k2
    have w1 := h.wl1
    rw [Int.mul_add q, ← Int.mul_assoc q]
    omega

/-- Where the test lets it through (or the rest is past a word), it is at most one too great. -/
theorem est_fit {D W top next u2 u1 u0 G dl wl q r o : Int} (h : Win D W top next u2 u1 u0 G dl wl) (E : Est D W top u2 u1 q r o)
    (hc : o = 1 ∨ q * next ≤ r * 18446744073709551616 + u0) : Fit D W q := by
  obtain ⟨q0, q1, r0, r1, o0, o1, eq, lt⟩ := E
  refine ⟨q0, q1, lt, ?_⟩
  -- q (top B + next) <= U3
  have k0 : q * next ≤ (r + 18446744073709551616 * o) * 18446744073709551616 + u0 := by
    have c0 := h.c0
    rcases hc with rfl | hc
    · have h1 : q * next ≤ 18446744073709551615 * 18446744073709551615 := Int.mul_le_mul (by omega) (by have := h.n1; omega) h.n0 (by omega)
      omega
    · omega
  have k1 : q * (top * 18446744073709551616 + next) ≤ (u2 * 18446744073709551616 + u1) * 18446744073709551616 + u0 := by
    rw [Int.mul_add, ← Int.mul_assoc q top]; omega
  have k2 : q * (top * 18446744073709551616 + next) * G ≤ ((u2 * 18446744073709551616 + u1) * 18446744073709551616 + u0) * G := Int.mul_le_mul_of_nonneg_right k1 (Int.le_of_lt h.g)
  have k3 : q * dl ≤ 18446744073709551615 * G := Int.mul_le_mul (by omega) (by have := h.dl1; omega) h.dl0 (by omega)
  have w0 := h.wl0
  have hD := h.eD
  have hW := h.eW
  have k4 : 18446744073709551616 * G ≤ (top * 18446744073709551616 + next) * G := Int.mul_le_mul_of_nonneg_right (by have := h.t0; have := h.n0; omega) (Int.le_of_lt h.g)
  have e : q * D = q * (top * 18446744073709551616 + next) * G + q * dl := by rw [hD, Int.mul_add, Int.mul_assoc]
  have dl0 := h.dl0
  have g := h.g
  rw [Int.sub_mul, Int.one_mul, e]
  omega

/-- The digit and what is left, by the product's borrow. -/
theorem fit_exact {D W q z p : Int} {b : Int} (_hD : 0 < D) (hW : 0 ≤ W) (F : Fit D W q) (_hz0 : 0 ≤ z) (hz1 : z < p) (_hDp : D < p) (hb0 : 0 ≤ b) (hb1 : b ≤ 1) (h : z + D * q = W + b * p) :
    (b = 0 → q * D + z = W ∧ z < D) ∧ (b = 1 → 1 ≤ q ∧ ∀ z2 c : Int, 0 ≤ z2 → z2 < p → 0 ≤ c → c ≤ 1 → z2 + c * p = z + D → (q - 1) * D + z2 = W ∧ 0 ≤ z2 ∧ z2 < D) := by
  obtain ⟨q0, q1, lt, le⟩ := F
  rw [Int.add_mul, Int.one_mul] at lt
  rw [Int.sub_mul, Int.one_mul] at le
  rw [Int.mul_comm D q] at h
  refine ⟨fun hb => ?_, fun hb => ?_⟩
  · subst hb
    rw [Int.zero_mul] at h
    omega
  · subst hb
    rw [Int.one_mul] at h
    have hq : 1 ≤ q := by
      apply Int.le_of_not_gt
      intro hn
      have : q = 0 := by omega
      subst this
      rw [Int.zero_mul] at h le
      omega
    refine ⟨hq, fun z2 c a1 a2 a3 a4 e => ?_⟩
    rw [Int.sub_mul, Int.one_mul]
    rcases (by omega : c = 0 ∨ c = 1) with rfl | rfl
    · rw [Int.zero_mul] at e; omega
    · rw [Int.one_mul] at e; omega
end Go.Proofs.Qxb6003414a

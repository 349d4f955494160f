/-
  PLAIN NUMBERS for mulWords: one digit's step, one row's step.
-/
import Derived.Test.Qxb6003414aNum
namespace Go.Proofs.Qxb6003414a
set_option linter.unusedSimpArgs false

/-- x y + z + c in two words. -/
theorem mul_digit {x y z c : Int} (hx : W64 x) (hy : W64 y) (hz : W64 z) (hc : W64 c) :
    W64 (mulLo x y) ∧ W64 (addLo (mulLo x y) z 0) ∧ W64 (addLo (addLo (mulLo x y) z 0) c 0) ∧
    (0 ≤ mulHi x y ∧ 0 ≤ addHi (mulLo x y) z 0 ∧ 0 ≤ addHi (addLo (mulLo x y) z 0) c 0) ∧
    mulHi x y + addHi (mulLo x y) z 0 ≤ 18446744073709551615 ∧
    mulHi x y + addHi (mulLo x y) z 0 + addHi (addLo (mulLo x y) z 0) c 0 ≤ 18446744073709551615 ∧
    addLo (addLo (mulLo x y) z 0) c 0 + 18446744073709551616 * (mulHi x y + addHi (mulLo x y) z 0 + addHi (addLo (mulLo x y) z 0) c 0) = x * y + z + c := by
  have h1 := mul_facts hx hy
  have h2 := add_facts (c := 0) h1.1 hz (by omega) (by omega)
  have h3 := add_facts (c := 0) h2.1 hc (by omega) (by omega)
  have h4 := mul_le_W hx hy
  unfold W64 at *
  generalize addLo (addLo (mulLo x y) z 0) c 0 = l2 at *
  generalize addHi (addLo (mulLo x y) z 0) c 0 = c2 at *
  generalize addLo (mulLo x y) z 0 = l1 at *
  generalize addHi (mulLo x y) z 0 = c1 at *
  generalize mulLo x y = l at *
  generalize mulHi x y = h at *
  generalize x * y = p at *
  omega

/-- One digit of the inner loop. -/
theorem mul_inner {W0 Y R : List Int} {x c c' l : Int} {j : Nat} (hR : R.length = j)
    (h : val R + c * pw j = val (W0.take j) + x * val (Y.take j))
    (hd : l + 18446744073709551616 * c' = x * Y.getD j 0 + W0.getD j 0 + c) :
    val (R ++ [l]) + c' * pw (j + 1) = val (W0.take (j + 1)) + x * val (Y.take (j + 1)) := by
  rw [val_snoc, hR, val_take_succ W0, val_take_succ Y, pw_succ]
  rw [← B_eq] at hd
  have e : pw j * (l + B * c') = pw j * (x * Y.getD j 0 + W0.getD j 0 + c) := by rw [hd]
  simp only [Int.mul_add, Int.add_mul, Int.mul_assoc, Int.mul_comm, Int.mul_left_comm] at e h ⊢
  omega

/-- One row of the outer loop. -/
theorem mul_outer {X Y Z R : List Int} {c : Int} {i : Nat} (hi : i + Y.length ≤ Z.length) (hR : R.length = Y.length)
    (h0 : val (Z.take (i + Y.length)) = val (X.take i) * val Y)
    (h : val R + c * pw Y.length = val ((Z.drop i).take Y.length) + X.getD i 0 * val Y) :
    val ((Z.take i ++ R) ++ [c]) = val (X.take (i + 1)) * val Y := by
  have hl : (Z.take i).length = i := by simp; omega
  rw [val_snoc, val_append, List.length_append, hl, hR, val_take_succ X, pw_add]
  have e1 : Z.take (i + Y.length) = Z.take i ++ (Z.drop i).take Y.length := by rw [List.take_add]
  rw [e1, val_append, hl] at h0
  have e : pw i * (val R + c * pw Y.length) = pw i * (val ((Z.drop i).take Y.length) + X.getD i 0 * val Y) := by rw [h]
  simp only [Int.mul_add, Int.add_mul, Int.mul_assoc, Int.mul_comm, Int.mul_left_comm] at e h0 ⊢
  omega
end Go.Proofs.Qxb6003414a

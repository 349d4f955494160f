/-
  PLAIN NUMBERS for quoLong: lists of words, one digit's step.
-/
import Derived.Test.Qxb6003414aKnuthNum
import Derived.Test.Qxb6003414aAddNum
namespace Go.Proofs.Qxb6003414a
set_option linter.unusedSimpArgs false

theorem val_top2 {l : List Int} {k : Nat} (hl : l.length = k + 2) : val l = (l.getD (k + 1) 0 * 18446744073709551616 + l.getD k 0) * pw k + val (l.take k) := by
  have h1 := val_take_succ l k
  have h2 := val_take_succ l (k + 1)
  rw [List.take_of_length_le (by omega), pw_succ] at h2
  rw [h2, h1, ← B_eq]
  simp only [Int.mul_add, Int.add_mul, Int.mul_assoc, Int.mul_comm, Int.mul_left_comm]
  omega
theorem val_top3 {l : List Int} {k : Nat} (hl : l.length = k + 3) : val l = ((l.getD (k + 2) 0 * 18446744073709551616 + l.getD (k + 1) 0) * 18446744073709551616 + l.getD k 0) * pw k + val (l.take k) := by
  have h1 := val_take_succ l k
  have h2 := val_take_succ l (k + 1)
  have h3 := val_take_succ l (k + 2)
  rw [List.take_of_length_le (by omega), pw_succ, pw_succ] at h3
  rw [pw_succ] at h2
  rw [h3, h2, h1, ← B_eq]
  simp only [Int.mul_add, Int.add_mul, Int.mul_assoc, Int.mul_comm, Int.mul_left_comm]
  omega

/-- The divisor's words and a window, as the digit's arithmetic wants them. -/
theorem win_of {Dv V : List Int} {k : Nat} (hD : Dv.length = k + 2) (hDw : AllW Dv) (ht : 9223372036854775808 ≤ Dv.getD (k + 1) 0) (hV : V.length = k + 3) (hVw : AllW V) (hlt : val V < val Dv * 18446744073709551616) :
    Win (val Dv) (val V) (Dv.getD (k + 1) 0) (Dv.getD k 0) (V.getD (k + 2) 0) (V.getD (k + 1) 0) (V.getD k 0) (pw k) (val (Dv.take k)) (val (V.take k)) := by
  have a := hDw.getD (k + 1)
  have b := hDw.getD k
  have c := hVw.getD (k + 2)
  have d := hVw.getD (k + 1)
  have e := hVw.getD k
  have l1 := val_lt (hDw.take k)
  have l2 := val_lt (hVw.take k)
  rw [List.length_take, Nat.min_eq_left (by omega)] at l1 l2
  exact ⟨pw_pos k, val_top2 hD, val_top3 hV, ht, a.2, b.1, b.2, c.1, c.2, d.1, d.2, e.1, e.2, val_nonneg (hDw.take k), l1, val_nonneg (hVw.take k), l2, hlt⟩

/-- The window holds all that is left above place j; it is below D 2^64. -/
theorem window_facts {U : List Int} {D : Int} {j n : Nat} (hU : AllW U) (hl : j + n + 1 ≤ U.length) (hDn : D < pw n) (h : val (U.drop (j + 1)) < D) :
    val ((U.drop j).take (n + 1)) < D * 18446744073709551616 ∧ val (U.drop (j + (n + 1))) = 0 ∧ val (U.drop j) = val ((U.drop j).take (n + 1)) := by
  have h1 := val_drop_succ U j (by omega)
  have h2 := (hU.getD j).2
  have h3 := val_split (U.drop j) (n + 1) (by simp; omega)
  rw [List.drop_drop] at h3
  have h4 := val_nonneg ((hU.drop j).take (n + 1))
  have h5 := val_nonneg (hU.drop (j + (n + 1)))
  rw [B_eq] at h1
  have hlt : val (U.drop j) < D * 18446744073709551616 := by omega
  have hz : val (U.drop (j + (n + 1))) = 0 := by
    apply Int.le_antisymm _ h5
    apply Int.le_of_not_gt
    intro hc
    have h6 : pw (n + 1) * 1 ≤ pw (n + 1) * val (U.drop (j + (n + 1))) := Int.mul_le_mul_of_nonneg_left hc (Int.le_of_lt (pw_pos _))
    rw [Int.mul_one, pw_succ, B_eq] at h6
    rw [pw_succ, B_eq] at h3
    omega
  rw [hz, Int.mul_zero, Int.add_zero] at h3
  exact ⟨by omega, hz, h3⟩

/-- One digit more. -/
theorem long_step {U Wl Qs : List Int} {D q V0 : Int} {j n : Nat} (hU : AllW U) (hl : j + n + 1 ≤ U.length) (hDn : D < pw n) (h : val (U.drop (j + 1)) < D)
    (hWl : Wl.length = n + 1) (hw : q * D + val Wl = val ((U.drop j).take (n + 1))) (hlt : val Wl < D)
    (hv : val Qs * D * pw (j + 1) + val U = V0) :
    val (((U.take j ++ Wl) ++ U.drop (j + (n + 1))).drop j) < D ∧ val (q :: Qs) * D * pw j + val ((U.take j ++ Wl) ++ U.drop (j + (n + 1))) = V0 := by
  obtain ⟨_, hz, he⟩ := window_facts hU hl hDn h
  have hlj : (U.take j).length = j := by simp; omega
  have hs := val_split U j (by omega)
  have e1 : ((U.take j ++ Wl) ++ U.drop (j + (n + 1))).drop j = Wl ++ U.drop (j + (n + 1)) := by
    rw [List.append_assoc, List.drop_append_of_le_length (by omega), List.drop_of_length_le (by omega), List.nil_append]
  have e2 : val (Wl ++ U.drop (j + (n + 1))) = val Wl := by rw [val_append, hz]; simp
  rw [e1, e2]
  refine ⟨hlt, ?_⟩
  rw [List.append_assoc, val_append, hlj, e2, val_cons]
  rw [pw_succ] at hv
  rw [he, ← hw] at hs
  have e3 : (q + B * val Qs) * D * pw j = pw j * (q * D) + val Qs * D * (B * pw j) := by
    simp only [Int.mul_add, Int.add_mul, Int.mul_assoc, Int.mul_comm, Int.mul_left_comm]
  rw [e3]
  rw [Int.mul_add] at hs
  omega

/-- The row of digits, filled from its end. -/
theorem digits_set (Q0 Qs : List Int) (j : Nat) (q : Int) (hj : j < Q0.length) : (Q0.take (j + 1) ++ Qs).set j q = Q0.take j ++ (q :: Qs) := by
  have h1 : (Q0.take j).length = j := by simp; omega
  rw [List.take_succ_eq_append_getElem hj, List.append_assoc, List.set_append, if_neg (by omega), h1, Nat.sub_self, List.singleton_append, List.set_cons_zero]

/-- The shifted dividend's top words are below the divisor. -/
theorem start_lt {U Dv : List Int} {k m : Nat} (hD : Dv.length = k + 2) (hDw : AllW Dv) (ht : 9223372036854775808 ≤ Dv.getD (k + 1) 0) (hU : U.length = m + (k + 2)) (hUw : AllW U) (htop : U.getD (m + k + 1) 0 < 9223372036854775808) :
    val (U.drop m) < val Dv := by
  have h1 := val_top2 (l := U.drop m) (k := k) (by simp; omega)
  have h2 := val_top2 hD
  have g1 : (U.drop m).getD (k + 1) 0 = U.getD (m + k + 1) 0 := by simp [List.getD, Nat.add_assoc]
  rw [g1] at h1
  have a := (hUw.drop m).getD k
  have b := hDw.getD k
  have l1 := val_lt ((hUw.drop m).take k)
  rw [List.length_take, Nat.min_eq_left (by simp; omega)] at l1
  have l2 := val_nonneg (hDw.take k)
  unfold W64 at a b
  have k1 : (U.getD (m + k + 1) 0 * 18446744073709551616 + (U.drop m).getD k 0 + 1) * pw k ≤ (Dv.getD (k + 1) 0 * 18446744073709551616 + Dv.getD k 0) * pw k :=
    Int.mul_le_mul_of_nonneg_right (by omega) (Int.le_of_lt (pw_pos k))
  rw [Int.add_mul _ 1, Int.one_mul] at k1
  omega
end Go.Proofs.Qxb6003414a

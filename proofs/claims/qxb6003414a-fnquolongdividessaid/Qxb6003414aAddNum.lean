/-
  PLAIN NUMBERS for addWords, subWords, mulSubWords, cmpWords, zzTrim.
-/
import Derived.Test.Qxb6003414aNum
namespace Go.Proofs.Qxb6003414a
set_option linter.unusedSimpArgs false

theorem add_step {X Y R : List Int} {c c' l : Int} {k : Nat} (hR : R.length = k)
    (h : val R + c * pw k = val (X.take k) + val (Y.take k))
    (hd : l + 18446744073709551616 * c' = X.getD k 0 + Y.getD k 0 + c) :
    val (R ++ [l]) + c' * pw (k + 1) = val (X.take (k + 1)) + val (Y.take (k + 1)) := by
  rw [val_snoc, hR, val_take_succ X, val_take_succ Y, pw_succ]
  rw [← B_eq] at hd
  have e : pw k * (l + B * c') = pw k * (X.getD k 0 + Y.getD k 0 + c) := by rw [hd]
  simp only [Int.mul_add, Int.add_mul, Int.mul_assoc, Int.mul_comm, Int.mul_left_comm] at e h ⊢
  omega

theorem sub_step {X Y R : List Int} {c c' l : Int} {k : Nat} (hR : R.length = k)
    (h : val R - c * pw k = val (X.take k) - val (Y.take k))
    (hd : l - 18446744073709551616 * c' = X.getD k 0 - Y.getD k 0 - c) :
    val (R ++ [l]) - c' * pw (k + 1) = val (X.take (k + 1)) - val (Y.take (k + 1)) := by
  rw [val_snoc, hR, val_take_succ X, val_take_succ Y, pw_succ]
  rw [← B_eq] at hd
  have e : pw k * (l - B * c') = pw k * (X.getD k 0 - Y.getD k 0 - c) := by rw [hd]
  simp only [Int.mul_add, Int.add_mul, Int.mul_sub, Int.sub_mul, Int.mul_assoc, Int.mul_comm, Int.mul_left_comm] at e h ⊢
  omega

/-- One digit of z - x m: the facts that the walk wants. -/
theorem mulsub_digit {x m u cr b : Int} (hx : W64 x) (hm : W64 m) (hu : W64 u) (hc : W64 cr) (hb0 : 0 ≤ b) (hb1 : b ≤ 1) :
    W64 (mulLo x m) ∧ W64 (addLo (mulLo x m) cr 0) ∧ (0 ≤ mulHi x m ∧ 0 ≤ addHi (mulLo x m) cr 0) ∧ mulHi x m + addHi (mulLo x m) cr 0 ≤ 18446744073709551615 ∧
    W64 (subLo u (addLo (mulLo x m) cr 0) b) ∧ 0 ≤ subHi u (addLo (mulLo x m) cr 0) b ∧ subHi u (addLo (mulLo x m) cr 0) b ≤ 1 ∧
    subLo u (addLo (mulLo x m) cr 0) b + x * m = u + 18446744073709551616 * (subHi u (addLo (mulLo x m) cr 0) b + (mulHi x m + addHi (mulLo x m) cr 0)) - (b + cr) := by
  have h1 := mul_facts hx hm
  have h2 := add_facts (c := 0) h1.1 hc (by omega) (by omega)
  have h3 := sub_facts hu h2.1 hb0 hb1
  have h4 := mul_le_W hx hm
  unfold W64 at *
  generalize subLo u (addLo (mulLo x m) cr 0) b = d at *
  generalize subHi u (addLo (mulLo x m) cr 0) b = b' at *
  generalize addLo (mulLo x m) cr 0 = l1 at *
  generalize addHi (mulLo x m) cr 0 = c1 at *
  generalize mulLo x m = l at *
  generalize mulHi x m = h at *
  generalize x * m = p at *
  omega

theorem mulsub_step {X U R : List Int} {m cr cr' b b' d : Int} {k : Nat} (hR : R.length = k)
    (h : val R + val (X.take k) * m = val (U.take k) + (b + cr) * pw k)
    (hd : d + X.getD k 0 * m = U.getD k 0 + 18446744073709551616 * (b' + cr') - (b + cr)) :
    val (R ++ [d]) + val (X.take (k + 1)) * m = val (U.take (k + 1)) + (b' + cr') * pw (k + 1) := by
  rw [val_snoc, hR, val_take_succ X, val_take_succ U, pw_succ]
  rw [← B_eq] at hd
  have e : pw k * (d + X.getD k 0 * m) = pw k * (U.getD k 0 + B * (b' + cr') - (b + cr)) := by rw [hd]
  simp only [Int.mul_add, Int.add_mul, Int.mul_sub, Int.sub_mul, Int.mul_assoc, Int.mul_comm, Int.mul_left_comm] at e h ⊢
  omega

theorem mulsub_top {X U R : List Int} {m cr b b' d : Int} {k : Nat} (hR : R.length = k)
    (h : val R + val (X.take k) * m = val (U.take k) + (b + cr) * pw k)
    (hd : d - 18446744073709551616 * b' = U.getD k 0 - cr - b) :
    val (R ++ [d]) + val (X.take k) * m = val (U.take (k + 1)) + b' * pw (k + 1) := by
  rw [val_snoc, hR, val_take_succ U, pw_succ]
  rw [← B_eq] at hd
  have e : pw k * (d - B * b') = pw k * (U.getD k 0 - cr - b) := by rw [hd]
  simp only [Int.mul_add, Int.add_mul, Int.mul_sub, Int.sub_mul, Int.mul_assoc, Int.mul_comm, Int.mul_left_comm] at e h ⊢
  omega

/-! ### trim and compare -/
def Trimmed (L : List Int) : Prop := L = [] ∨ L.getD (L.length - 1) 0 ≠ 0

def cmpI (a b : Int) : Int := if a < b then -1 else if a = b then 0 else 1
theorem cmpI_lt {a b : Int} (h : a < b) : cmpI a b = -1 := by unfold cmpI; rw [if_pos h]
theorem cmpI_eq (a : Int) : cmpI a a = 0 := by unfold cmpI; rw [if_neg (by omega), if_pos rfl]
theorem cmpI_gt {a b : Int} (h : b < a) : cmpI a b = 1 := by unfold cmpI; rw [if_neg (by omega), if_neg (by omega)]
theorem cmpI_facts (a b : Int) : -1 ≤ cmpI a b ∧ cmpI a b ≤ 1 ∧ cmpI b a = - cmpI a b ∧ (cmpI a b = 0 ↔ a = b) ∧ (0 ≤ cmpI a b ↔ b ≤ a) ∧ (cmpI a b < 0 ↔ a < b) := by
  rcases Int.lt_trichotomy a b with h | h | h
  · rw [cmpI_lt h, cmpI_gt h]; omega
  · subst h; rw [cmpI_eq]; omega
  · rw [cmpI_gt h, cmpI_lt h]; omega

theorem pw_mono {m n : Nat} (h : m ≤ n) : pw m ≤ pw n := by
  induction n with
  | zero => have : m = 0 := by omega
            subst this; exact Int.le_refl _
  | succ n ih =>
    by_cases hm : m ≤ n
    · have h1 := ih hm
      have h2 : 1 * pw n ≤ B * pw n := Int.mul_le_mul_of_nonneg_right (by rw [B_eq]; omega) (Int.le_of_lt (pw_pos n))
      rw [Int.one_mul, ← pw_succ] at h2
      omega
    · have : m = n + 1 := by omega
      subst this; exact Int.le_refl _

/-- A list with a top word that is not zero is no less than that word's place. -/
theorem trimmed_ge {L : List Int} (hw : AllW L) (ht : Trimmed L) (h0 : 0 < L.length) : pw (L.length - 1) ≤ val L := by
  rcases ht with rfl | ht
  · simp at h0
  · have hs := val_split L (L.length - 1) (by omega)
    have hd := val_drop_succ L (L.length - 1) (by omega)
    have e : L.length - 1 + 1 = L.length := by omega
    rw [e, List.drop_of_length_le (Nat.le_refl _), val_nil, Int.mul_zero, Int.add_zero] at hd
    have h1 := (hw.getD (L.length - 1)).1
    have h2 := val_nonneg (hw.take (L.length - 1))
    have h3 : pw (L.length - 1) * 1 ≤ pw (L.length - 1) * L.getD (L.length - 1) 0 := Int.mul_le_mul_of_nonneg_left (by omega) (Int.le_of_lt (pw_pos _))
    rw [hd] at hs
    omega
theorem lt_of_shorter {X Y : List Int} (hX : AllW X) (hY : AllW Y) (ht : Trimmed Y) (h : X.length < Y.length) : val X < val Y := by
  have h1 := val_lt hX
  have h2 := trimmed_ge hY ht (by omega)
  have h3 := pw_mono (show X.length ≤ Y.length - 1 by omega)
  omega
/-- Words alike above place i, other at place i: that place decides. -/
theorem lt_of_place {X Y : List Int} {n i : Nat} (hX : AllW X) (hY : AllW Y) (hl : X.length = n) (hm : Y.length = n) (hi : i < n) (he : X.drop (i + 1) = Y.drop (i + 1)) (h : X.getD i 0 < Y.getD i 0) : val X < val Y := by
  have h1 := val_split X i (by omega)
  have h2 := val_split Y i (by omega)
  have h3 := val_drop_succ X i (by omega)
  have h4 := val_drop_succ Y i (by omega)
  rw [he] at h3
  have h5 := val_lt (hX.take i)
  have h6 := val_nonneg (hY.take i)
  rw [List.length_take, Nat.min_eq_left (by omega)] at h5
  have h7 : pw i * (val (X.drop i) + 1) ≤ pw i * val (Y.drop i) := Int.mul_le_mul_of_nonneg_left (by omega) (Int.le_of_lt (pw_pos _))
  rw [Int.mul_add, Int.mul_one] at h7
  omega
/-- Zeros on top cut off. -/
theorem val_take_trim {L : List Int} {k : Nat} (hk : k ≤ L.length) (h : ∀ j, k ≤ j → L.getD j 0 = 0) : val (L.take k) = val L := by
  have h1 := val_split L k hk
  have h2 : val (L.drop k) = 0 := by
    have : ∀ M : List Int, (∀ j, M.getD j 0 = 0) → val M = 0 := by
      intro M
      induction M with
      | nil => intro _; rfl
      | cons x M ih =>
        intro hM
        have hx : x = 0 := hM 0
        rw [val_cons, hx, ih (fun j => by simpa using hM (j + 1))]; simp
    refine this _ fun j => ?_
    have := h (k + j) (by omega)
    simpa [List.getD] using this
  rw [h2, Int.mul_zero, Int.add_zero] at h1
  exact h1.symm
theorem trimmed_take {L : List Int} {k : Nat} (hk : k ≤ L.length) (h : k = 0 ∨ L.getD (k - 1) 0 ≠ 0) : Trimmed (L.take k) := by
  by_cases h0 : k = 0
  · subst h0; exact .inl (by simp)
  · right
    have e : (L.take k).length = k := by simp; omega
    rw [e]
    have e2 : (L.take k).getD (k - 1) 0 = L.getD (k - 1) 0 := by simp [List.getD, show k - 1 < k by omega]
    rw [e2]
    rcases h with h | h
    · omega
    · exact h
/-- Trimmed lists of one value are one. -/
theorem trimmed_inj {X Y : List Int} (hX : AllW X) (hY : AllW Y) (tX : Trimmed X) (tY : Trimmed Y) (h : val X = val Y) : X = Y := by
  rcases Nat.lt_trichotomy X.length Y.length with hl | hl | hl
  · have := lt_of_shorter hX hY tY hl; omega
  · exact val_inj hX hY hl h
  · have := lt_of_shorter hY hX tX hl; omega
end Go.Proofs.Qxb6003414a

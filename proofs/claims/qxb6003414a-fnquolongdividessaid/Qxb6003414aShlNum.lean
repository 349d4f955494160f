/-
  PLAIN NUMBERS for shlWords and shrWords.
-/
import Derived.Test.Qxb6003414aNum
namespace Go.Proofs.Qxb6003414a
set_option linter.unusedSimpArgs false

/-- 2 to the s. -/
def P2 (s : Nat) : Int := 2 ^ s
theorem P2_pos (s : Nat) : 0 < P2 s := Int.pow_pos (by omega)
theorem P2_mul (s : Nat) (h : s ≤ 64) : P2 s * P2 (64 - s) = B := by
  unfold P2
  rw [← Int.pow_add, Nat.add_sub_cancel' h, B_eq]
  rfl
theorem P2_zero : P2 0 = 1 := rfl
theorem P2_le (s : Nat) (h : s ≤ 63) : P2 s ≤ 9223372036854775808 := by
  have h1 := P2_mul s (by omega)
  have h2 : (2 : Int) ≤ P2 (64 - s) := by
    have e : 64 - s = (63 - s) + 1 := by omega
    unfold P2
    rw [e, Int.pow_succ]
    have : 0 < P2 (63 - s) := P2_pos _
    unfold P2 at this
    omega
  have h3 : P2 s * 2 ≤ P2 s * P2 (64 - s) := Int.mul_le_mul_of_nonneg_left h2 (Int.le_of_lt (P2_pos s))
  rw [h1, B_eq] at h3
  omega

/-- A word shifted up, the bits that fall out dropped. -/
theorem shl_word (x : Int) (s : Nat) (h : s ≤ 64) : (x * P2 s) % 18446744073709551616 = P2 s * (x % P2 (64 - s)) := by
  rw [← B_eq, ← P2_mul s h, Int.mul_comm x, Int.mul_emod_mul_of_pos _ _ (P2_pos s)]
theorem shr_lt {x : Int} (hx : W64 x) (s : Nat) (h : s ≤ 64) : 0 ≤ x / P2 (64 - s) ∧ x / P2 (64 - s) < P2 s := by
  refine ⟨Int.ediv_nonneg hx.1 (Int.le_of_lt (P2_pos _)), Int.ediv_lt_of_lt_mul (P2_pos _) ?_⟩
  rw [P2_mul s h, B_eq]; exact hx.2
theorem mod_P2 (x : Int) (s : Nat) : 0 ≤ x % P2 s ∧ x % P2 s < P2 s := ⟨Int.emod_nonneg _ (by have := P2_pos s; omega), Int.emod_lt_of_pos _ (P2_pos s)⟩

/-- One digit of x shifted up: x's low part on top, the word below's high part beneath. -/
def shlD (s : Nat) (x p : Int) : Int := P2 s * (x % P2 (64 - s)) + p / P2 (64 - s)
theorem shlD_w {x p : Int} (hp : W64 p) (s : Nat) (h : s ≤ 64) : W64 (shlD s x p) := by
  have h1 := shr_lt hp s h
  have h2 := mod_P2 x (64 - s)
  have h3 : P2 s * (x % P2 (64 - s) + 1) ≤ P2 s * P2 (64 - s) := Int.mul_le_mul_of_nonneg_left (by omega) (Int.le_of_lt (P2_pos s))
  have h4 : 0 ≤ P2 s * (x % P2 (64 - s)) := Int.mul_nonneg (Int.le_of_lt (P2_pos s)) h2.1
  rw [P2_mul s h, B_eq, Int.mul_add, Int.mul_one] at h3
  unfold shlD W64
  omega
theorem shlD_eq (s : Nat) (x p : Int) (h : s ≤ 64) : shlD s x p + B * (x / P2 (64 - s)) = P2 s * x + p / P2 (64 - s) := by
  have e := Int.emod_add_mul_ediv x (P2 (64 - s))
  unfold shlD
  rw [← P2_mul s h]
  have e2 : P2 s * (x % P2 (64 - s) + P2 (64 - s) * (x / P2 (64 - s))) = P2 s * x := by rw [e]
  rw [Int.mul_add] at e2
  rw [Int.mul_assoc]
  omega

def shlL (s : Nat) : Int → List Int → List Int
  | _, [] => []
  | p, x :: l => shlD s x p :: shlL s x l
def lastOf : Int → List Int → Int
  | p, [] => p
  | _, x :: l => lastOf x l
theorem shlL_len (s : Nat) (p : Int) (l : List Int) : (shlL s p l).length = l.length := by
  induction l generalizing p with
  | nil => rfl
  | cons x l ih => simp [shlL, ih]
theorem shlL_w (s : Nat) (h : s ≤ 64) {p : Int} {l : List Int} (hp : W64 p) (hl : AllW l) : AllW (shlL s p l) := by
  induction l generalizing p with
  | nil => exact AllW.nil
  | cons x l ih => exact AllW.cons (shlD_w hp s h) (ih hl.head hl.tail)
theorem shlL_val (s : Nat) (h : s ≤ 64) (p : Int) (l : List Int) : val (shlL s p l) + lastOf p l / P2 (64 - s) * pw l.length = P2 s * val l + p / P2 (64 - s) := by
  induction l generalizing p with
  | nil => simp [shlL, lastOf, val_nil, pw_zero]
  | cons x l ih =>
    have h1 := ih x
    have h2 := shlD_eq s x p h
    simp only [shlL, lastOf, val_cons, List.length_cons, pw_succ]
    have h3 : B * (val (shlL s x l) + lastOf x l / P2 (64 - s) * pw l.length) = B * (P2 s * val l + x / P2 (64 - s)) := by rw [h1]
    simp only [Int.mul_add, Int.mul_assoc, Int.mul_comm, Int.mul_left_comm] at h2 h3 ⊢
    omega
theorem shlL_getD_zero (s : Nat) (p x : Int) (l : List Int) : (shlL s p (x :: l)).getD 0 0 = shlD s x p := rfl
theorem shlL_getD (s : Nat) (p : Int) (l : List Int) (i : Nat) (hi : i < l.length) : (shlL s p l).getD i 0 = shlD s (l.getD i 0) (if i = 0 then p else l.getD (i - 1) 0) := by
  induction l generalizing p i with
  | nil => simp at hi
  | cons x l ih =>
    cases i with
    | zero => rfl
    | succ i =>
      have := ih x i (by simp at hi; omega)
      simp only [shlL, List.getD_cons_succ, this]
      cases i with
      | zero => rfl
      | succ i => simp
theorem lastOf_eq (p : Int) (l : List Int) (h : 0 < l.length) : lastOf p l = l.getD (l.length - 1) 0 := by
  induction l generalizing p with
  | nil => simp at h
  | cons x l ih =>
    cases l with
    | nil => rfl
    | cons y l =>
      have := ih x (by simp)
      simp only [lastOf] at this ⊢
      rw [this]
      simp

/-- Shifting down. -/
def shrD (s : Nat) (x y : Int) : Int := x / P2 s + P2 (64 - s) * (y % P2 s)
def shrL (s : Nat) : List Int → List Int
  | [] => []
  | x :: l => shrD s x (l.getD 0 0) :: shrL s l
theorem shrL_len (s : Nat) (l : List Int) : (shrL s l).length = l.length := by
  induction l with
  | nil => rfl
  | cons x l ih => simp [shrL, ih]
theorem shrD_w {x y : Int} (hx : W64 x) (s : Nat) (h : s ≤ 64) : W64 (shrD s x y) := by
  have e : 64 - (64 - s) = s := by omega
  have h0 := shlD_w (x := y) hx (64 - s) (by omega)
  unfold shlD at h0
  rw [e] at h0
  unfold shrD
  rw [Int.add_comm]; exact h0
theorem shrL_w (s : Nat) (h : s ≤ 64) {l : List Int} (hl : AllW l) : AllW (shrL s l) := by
  induction l with
  | nil => exact AllW.nil
  | cons x l ih => exact AllW.cons (shrD_w hl.head s h) (ih hl.tail)
theorem shrL_val (s : Nat) (h : s ≤ 64) (l : List Int) : P2 s * val (shrL s l) + l.getD 0 0 % P2 s = val l := by
  induction l with
  | nil => simp [shrL, val_nil]
  | cons x l ih =>
    simp only [shrL, val_cons, List.getD_cons_zero, shrD]
    have e := Int.emod_add_mul_ediv x (P2 s)
    have h3 : B * (P2 s * val (shrL s l) + l.getD 0 0 % P2 s) = B * val l := by rw [ih]
    rw [← P2_mul s h] at h3 ⊢
    simp only [Int.mul_add, Int.mul_assoc, Int.mul_comm, Int.mul_left_comm] at e h3 ⊢
    omega
theorem shrL_getD (s : Nat) (l : List Int) (i : Nat) (hi : i < l.length) : (shrL s l).getD i 0 = shrD s (l.getD i 0) (l.getD (i + 1) 0) := by
  induction l generalizing i with
  | nil => simp at hi
  | cons x l ih =>
    cases i with
    | zero => simp [shrL, List.getD]
    | succ i =>
      have := ih i (by simp at hi; omega)
      simp only [shrL, List.getD_cons_succ, this]
/-- Shifting down divides. -/
theorem shrL_div (s : Nat) (h : s ≤ 64) (l : List Int) : val (shrL s l) = val l / P2 s := by
  have h1 := shrL_val s h l
  have h2 := mod_P2 (l.getD 0 0) s
  have h3 := P2_pos s
  rw [← h1, Int.add_comm, Int.add_mul_ediv_left _ _ (by omega), Int.ediv_eq_zero_of_lt h2.1 h2.2, Int.zero_add]
end Go.Proofs.Qxb6003414a

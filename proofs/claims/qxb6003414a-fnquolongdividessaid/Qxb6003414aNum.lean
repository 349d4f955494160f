/-
  PLAIN NUMBERS: words of 64 bits, the value of a list of words (least first). No Go in sight.
-/
namespace Go.Proofs.Qxb6003414a

/-- The base. -/
def B : Int := 18446744073709551616
theorem B_eq : B = 18446744073709551616 := rfl
theorem B_pos : 0 < B := by rw [B_eq]; omega

def W64 (x : Int) : Prop := 0 ≤ x ∧ x < 18446744073709551616
def AllW (l : List Int) : Prop := ∀ x ∈ l, W64 x

def pw : Nat → Int
  | 0 => 1
  | n + 1 => B * pw n

def val : List Int → Int
  | [] => 0
  | x :: l => x + B * val l

theorem pw_zero : pw 0 = 1 := rfl
theorem pw_succ (n : Nat) : pw (n + 1) = B * pw n := rfl
theorem pw_pos (n : Nat) : 0 < pw n := by
  induction n with
  | zero => rw [pw_zero]; omega
  | succ n ih => rw [pw_succ]; exact Int.mul_pos B_pos ih
theorem pw_add (m n : Nat) : pw (m + n) = pw m * pw n := by
  induction n with
  | zero => rw [Nat.add_zero, pw_zero, Int.mul_one]
  | succ n ih => rw [Nat.add_succ, pw_succ, pw_succ, ih, Int.mul_left_comm]

theorem val_nil : val [] = 0 := rfl
theorem val_cons (x : Int) (l : List Int) : val (x :: l) = x + B * val l := rfl

theorem val_append (l m : List Int) : val (l ++ m) = val l + pw l.length * val m := by
  induction l with
  | nil => simp [val_nil, pw_zero]
  | cons x l ih =>
    rw [List.cons_append, val_cons, val_cons, ih, List.length_cons, pw_succ, Int.mul_add, Int.mul_assoc]
    omega

theorem val_snoc (l : List Int) (x : Int) : val (l ++ [x]) = val l + pw l.length * x := by
  rw [val_append, val_cons, val_nil]; simp

theorem AllW.nil : AllW [] := fun x h => by cases h
theorem AllW.cons {x : Int} {l : List Int} (hx : W64 x) (h : AllW l) : AllW (x :: l) := by
  intro y hy
  rcases List.mem_cons.1 hy with rfl | hy
  · exact hx
  · exact h y hy
theorem AllW.append {l m : List Int} (hl : AllW l) (hm : AllW m) : AllW (l ++ m) := by
  intro y hy
  rcases List.mem_append.1 hy with hy | hy
  · exact hl y hy
  · exact hm y hy
theorem AllW.snoc {x : Int} {l : List Int} (h : AllW l) (hx : W64 x) : AllW (l ++ [x]) := h.append (AllW.cons hx AllW.nil)
theorem AllW.take {l : List Int} (h : AllW l) (k : Nat) : AllW (l.take k) := fun x hx => h x (List.mem_of_mem_take hx)
theorem AllW.drop {l : List Int} (h : AllW l) (k : Nat) : AllW (l.drop k) := fun x hx => h x (List.mem_of_mem_drop hx)
theorem AllW.head {x : Int} {l : List Int} (h : AllW (x :: l)) : W64 x := h x (List.mem_cons_self)
theorem AllW.tail {x : Int} {l : List Int} (h : AllW (x :: l)) : AllW l := fun y hy => h y (List.mem_cons_of_mem _ hy)
theorem W64.zero : W64 0 := ⟨by omega, by omega⟩
theorem AllW.zeros (n : Nat) : AllW (List.replicate n 0) := fun x hx => by rw [(List.mem_replicate.1 hx).2]; exact W64.zero
theorem AllW.getD {l : List Int} (h : AllW l) (k : Nat) : W64 (l.getD k 0) := by
  by_cases hk : k < l.length
  · have e : l.getD k 0 = l[k] := by simp [List.getD, List.getElem?_eq_getElem hk]
    rw [e]; exact h _ (List.getElem_mem hk)
  · have e : l.getD k 0 = 0 := by simp [List.getD, List.getElem?_eq_none (by omega : l.length ≤ k)]
    rw [e]; exact W64.zero
theorem AllW.get? {l : List Int} (h : AllW l) (k : Nat) : W64 (l[k]?.getD 0) := h.getD k
theorem AllW.set {l : List Int} (h : AllW l) (k : Nat) {x : Int} (hx : W64 x) : AllW (l.set k x) := by
  intro y hy
  rcases List.mem_or_eq_of_mem_set hy with hy | rfl
  · exact h y hy
  · exact hx

theorem val_zeros (n : Nat) : val (List.replicate n 0) = 0 := by
  induction n with
  | zero => rfl
  | succ n ih => rw [List.replicate_succ, val_cons, ih]; simp

theorem val_nonneg {l : List Int} (h : AllW l) : 0 ≤ val l := by
  induction l with
  | nil => rw [val_nil]; omega
  | cons x l ih =>
    rw [val_cons]
    have h1 := (h.head).1
    have h2 := Int.mul_nonneg (Int.le_of_lt B_pos) (ih h.tail)
    omega

theorem val_lt {l : List Int} (h : AllW l) : val l < pw l.length := by
  induction l with
  | nil => rw [val_nil, List.length_nil, pw_zero]; omega
  | cons x l ih =>
    rw [val_cons, List.length_cons, pw_succ]
    have h1 := (h.head).2
    have h2 : B * (val l + 1) ≤ B * pw l.length := Int.mul_le_mul_of_nonneg_left (by have := ih h.tail; omega) (Int.le_of_lt B_pos)
    rw [Int.mul_add, Int.mul_one] at h2
    rw [← B_eq] at h1
    omega

theorem val_inj : ∀ {l m : List Int}, AllW l → AllW m → l.length = m.length → val l = val m → l = m
  | [], [], _, _, _, _ => rfl
  | [], _ :: _, _, _, h, _ => by simp at h
  | _ :: _, [], _, _, h, _ => by simp at h
  | x :: l, y :: m, hl, hm, h, hv => by
    rw [val_cons, val_cons] at hv
    have h1 := hl.head
    have h2 := hm.head
    unfold W64 at h1 h2
    rw [← B_eq] at h1 h2
    have e : x % B = y % B := by
      have := congrArg (· % B) hv
      simpa using this
    rw [Int.emod_eq_of_lt h1.1 h1.2, Int.emod_eq_of_lt h2.1 h2.2] at e
    subst e
    have e2 : B * val l = B * val m := by omega
    have e3 : val l = val m := Int.eq_of_mul_eq_mul_left (by have := B_pos; omega) e2
    rw [val_inj hl.tail hm.tail (by simpa using h) e3]

/-- One digit more. (Past the end the digit is 0.) -/
theorem val_take_succ (l : List Int) (k : Nat) : val (l.take (k + 1)) = val (l.take k) + pw k * l.getD k 0 := by
  by_cases hk : k < l.length
  · rw [List.take_succ_eq_append_getElem hk, val_snoc]
    have e : l.getD k 0 = l[k] := by simp [List.getD, List.getElem?_eq_getElem hk]
    rw [e, List.length_take, Nat.min_eq_left (by omega)]
  · rw [List.take_of_length_le (by omega), List.take_of_length_le (by omega)]
    have e : l.getD k 0 = 0 := by simp [List.getD, List.getElem?_eq_none (by omega : l.length ≤ k)]
    rw [e, Int.mul_zero, Int.add_zero]

theorem val_take_all (l : List Int) (k : Nat) (h : l.length ≤ k) : val (l.take k) = val l := by rw [List.take_of_length_le h]

/-- Split at k. -/
theorem val_split (l : List Int) (k : Nat) (h : k ≤ l.length) : val l = val (l.take k) + pw k * val (l.drop k) := by
  have := val_append (l.take k) (l.drop k)
  rw [List.take_append_drop, List.length_take, Nat.min_eq_left h] at this
  exact this

theorem val_drop_succ (l : List Int) (k : Nat) (h : k < l.length) : val (l.drop k) = l.getD k 0 + B * val (l.drop (k + 1)) := by
  rw [List.drop_eq_getElem_cons h, val_cons]
  simp [List.getD, List.getElem?_eq_getElem h]

/-! ### One word's sum, difference, product: low and high -/
def addLo (x y c : Int) : Int := (x + y + c) % 18446744073709551616
def addHi (x y c : Int) : Int := (x + y + c) / 18446744073709551616
def subLo (x y b : Int) : Int := (x - y - b) % 18446744073709551616
def subHi (x y b : Int) : Int := if x < y + b then 1 else 0
def mulHi (x y : Int) : Int := x * y / 18446744073709551616
def mulLo (x y : Int) : Int := x * y % 18446744073709551616

theorem add_facts {x y c : Int} (hx : W64 x) (hy : W64 y) (h0 : 0 ≤ c) (h1 : c ≤ 1) :
    W64 (addLo x y c) ∧ 0 ≤ addHi x y c ∧ addHi x y c ≤ 1 ∧ addLo x y c + 18446744073709551616 * addHi x y c = x + y + c := by
  unfold W64 addLo addHi at *; omega
/-- Without a carry in, with whatever second word. -/
theorem sub_facts {x y b : Int} (hx : W64 x) (hy : W64 y) (h0 : 0 ≤ b) (h1 : b ≤ 1) :
    W64 (subLo x y b) ∧ 0 ≤ subHi x y b ∧ subHi x y b ≤ 1 ∧ subLo x y b - 18446744073709551616 * subHi x y b = x - y - b := by
  unfold W64 subLo subHi at *; split <;> omega
theorem mul_le_W {x y : Int} (hx : W64 x) (hy : W64 y) : 0 ≤ x * y ∧ x * y ≤ 18446744073709551615 * 18446744073709551615 := by
  unfold W64 at *
  exact ⟨Int.mul_nonneg hx.1 hy.1, Int.mul_le_mul (by omega) (by omega) hy.1 (by omega)⟩
theorem mul_facts {x y : Int} (hx : W64 x) (hy : W64 y) :
    W64 (mulLo x y) ∧ 0 ≤ mulHi x y ∧ mulHi x y ≤ 18446744073709551614 ∧ mulLo x y + 18446744073709551616 * mulHi x y = x * y := by
  have h := mul_le_W hx hy
  unfold W64 mulLo mulHi
  generalize x * y = p at *
  omega

end Go.Proofs.Qxb6003414a

/-
  THE WALKS of checkRange and ZZCheckRange: what they accept, and that they refuse all else by an error that is not nil.
-/
import Derived.Test.Qxb6003400aRows
import Derived.WalkKit
import Derived.WalkSpells
import Derived.RowKit3
namespace Go.Proofs.Qxb6003400a
open Go.RowKit

/-- checkRange accepts. -/
theorem check_yes (s : ByteArray) (v lo hi : Int) (w : World) (h1 : lo ≤ v) (h2 : hi = 0 ∨ v ≤ hi) :
    Calls Try.prog 8 #[.string s, .int .i64 v, .int .i64 lo, .int .i64 hi] w fun e w' => e = .returned .nilIface ∧ w' = w := by
  by_cases hz : hi = 0
  · subst hz
    go_enter Try.func8, Try.ntmps8
    go_wp2
    go_ret
    exact ⟨rfl, rfl⟩
  · have h3 : v ≤ hi := by omega
    clear h2
    go_enter Try.func8, Try.ntmps8
    go_wp2
    go_ret
    exact ⟨rfl, rfl⟩

/-- checkRange refuses. -/
theorem check_no (s : ByteArray) (v lo hi : Int) (w : World) (h : v < lo ∨ (hi ≠ 0 ∧ hi < v)) :
    Calls Try.prog 8 #[.string s, .int .i64 v, .int .i64 lo, .int .i64 hi] w fun e w' => (∃ x, e = .returned (.iface 26 x)) ∧ ∃ c t, w' = w.alloc (.cells c t) := by
  by_cases h1 : v < lo
  · clear h
    go_enter Try.func8, Try.ntmps8
    go_wp2
    go_ret
    exact ⟨⟨_, rfl⟩, _, _, rfl⟩
  · have h2 : hi ≠ 0 := by omega
    have h3 : hi < v := by omega
    have h4 : lo ≤ v := by omega
    have h5 : (hi != 0) = true := by rw [bne_iff_ne]; omega
    have h6 : decide (v < lo) = false := decide_eq_false h1
    clear h h1 h2
    go_enter Try.func8, Try.ntmps8
    go_wp2
    go_ret
    exact ⟨⟨_, rfl⟩, _, _, rfl⟩

theorem zzcheck_yes (s : ByteArray) (v lo hi : Int) (w : World) (h1 : lo ≤ v) (h2 : hi = 0 ∨ v ≤ hi) :
    Calls Try.prog 6 #[.string s, .int .i64 v, .int .i64 lo, .int .i64 hi] w fun e w' => e = .returned .nilIface ∧ w' = w := by
  go_enter Try.func6, Try.ntmps6
  go_wp2_with (go_at_call 8; refine (check_yes _ _ _ _ _ h1 h2).mono ?_; rintro e w' ⟨rfl, rfl⟩)
  go_ret
  exact ⟨rfl, rfl⟩
theorem zzcheck_no (s : ByteArray) (v lo hi : Int) (w : World) (h : v < lo ∨ (hi ≠ 0 ∧ hi < v)) :
    Calls Try.prog 6 #[.string s, .int .i64 v, .int .i64 lo, .int .i64 hi] w fun e w' => (∃ x, e = .returned (.iface 26 x)) ∧ ∃ c t, w' = w.alloc (.cells c t) := by
  go_enter Try.func6, Try.ntmps6
  go_wp2_with (go_at_call 8; refine (check_no _ _ _ _ _ h).mono ?_; rintro e w' ⟨⟨x, rfl⟩, hg⟩)
  go_ret
  exact ⟨⟨_, rfl⟩, hg⟩

/-- What checkRange accepts. -/
def acc (v lo hi : Int) : Bool := decide (lo ≤ v ∧ (hi = 0 ∨ v ≤ hi))
theorem zz_t (s : ByteArray) (v lo hi : Int) (w : World) (h : acc v lo hi = true) :
    Calls Try.prog 6 #[.string s, .int .i64 v, .int .i64 lo, .int .i64 hi] w fun e w' => e = .returned .nilIface ∧ w' = w := by
  have h' := of_decide_eq_true h
  exact zzcheck_yes s v lo hi w h'.1 h'.2
theorem zz_f (s : ByteArray) (v lo hi : Int) (w : World) (h : acc v lo hi = false) :
    Calls Try.prog 6 #[.string s, .int .i64 v, .int .i64 lo, .int .i64 hi] w fun e w' => (∃ x, e = .returned (.iface 26 x)) ∧ ∃ c t, w' = w.alloc (.cells c t) := by
  have h' := of_decide_eq_false h
  exact zzcheck_no s v lo hi w (by omega)

/-- The bound on the length, laid by program. -/
theorem bytes_t (s : ByteArray) (a b c d e : Int) (w : World) (h : (s.size : Int) ≤ 1048576) :
    Calls Try.prog 7 #[.string s, .int .i64 a, .int .i64 b, .int .i64 c, .int .i64 d, .int .i64 e] w fun e w' => e = .returned (.bool true) ∧ w' = w := by
  go_enter Try.func7, Try.ntmps7
  go_wp2
  go_ret
  exact ⟨rfl, rfl⟩
end Go.Proofs.Qxb6003400a

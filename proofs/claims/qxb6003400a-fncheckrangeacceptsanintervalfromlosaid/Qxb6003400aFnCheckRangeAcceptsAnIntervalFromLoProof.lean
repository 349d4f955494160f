/-
  THE SHELL OF A PROOF OF 'Rows.FnCheckRangeAcceptsAnIntervalFromLoSaid' ('example.com/shardwire/shardwire/zzlaws_root_g1.FnCheckRangeAcceptsAnIntervalFromLo'), WRITTEN BY PROGRAM (proof-skeleton.mjs) off the guide's own print for that function.
  The frame is the guide's template at this function's number and types; the walk is filled in here.
-/
import Derived.Test.Qxb6003400aWalks
import Derived.WalkKit
import Derived.ProofKit
import Derived.OpenShut
import Derived.ShutString
namespace Go.Proofs.Qxb6003400a.fnCheckRangeAcceptsAnIntervalFromLo
open Go.ChangeShapes Go.WideShapes Go.ChangeAt Go.RowKit
open Go.ChangeMaps (open_string shut_string)
set_option linter.unusedVariables false      -- a walk need not use every 'w<i>' (that an integer argument fits its kind)

theorem own : ownKnob Try.prog.godebug = none := by kernel_rfl

/-! ### STEP 1: THE WALK: the Go text returns true. 'Grown w w'': the world has at most new blocks (Derived/RowKit3.lean). Part the cases AHEAD of 'go_enter' where a test parts the walk; take each callee by a contract of your own. -/
set_option maxHeartbeats 4000000 in
theorem walk (a0 : ByteArray) (a1 : Int) (a2 : Int) (a3 : Int) (a4 : Int) (a5 : Int) (w0 : a0.size ≤ maxLen) (w1 : (Lit.int .i64 a1).wf = true) (w2 : (Lit.int .i64 a2).wf = true) (w3 : (Lit.int .i64 a3).wf = true) (w4 : (Lit.int .i64 a4).wf = true) (w5 : (Lit.int .i64 a5).wf = true) (w : World) :
    Calls Try.prog 4 #[.string a0, .int .i64 a1, .int .i64 a2, .int .i64 a3, .int .i64 a4, .int .i64 a5] w fun e w' => e = .returned (.bool true) ∧ Grown w w' := by
  by_cases hs : a0.size ≤ 1048576
  · have hs' : (a0.size : Int) ≤ 1048576 := by omega
    have wl := bounds_i64 w4
    clear w0 w1 w2 w3 w4 w5 hs
    cases hA : acc a1 a4 a5
    · cases hB : acc a2 a4 a5
      all_goals cases hC : acc a3 a4 a5
      all_goals
        have hL := hA
        have hM := hA
        go_enter Try.func4, Try.ntmps4
        go_wp2_with (first | (go_at_call 7; refine (bytes_t _ _ _ _ _ _ _ hs').mono ?_; rintro e w' ⟨rfl, rfl⟩) | (go_at_call 6; refine (zz_t _ _ _ _ _ ?_).mono ?_; (first | exact hA | exact hB | exact hC | exact hL | exact hM); rintro e w' ⟨rfl, rfl⟩) | (go_at_call 6; refine (zz_f _ _ _ _ _ ?_).mono ?_; (first | exact hA | exact hB | exact hC | exact hL | exact hM); rintro e w' ⟨⟨x, rfl⟩, c, t, rfl⟩))
        go_ret
        exact ⟨rfl, by repeat (first | exact Grown.refl _ | apply Grown.drew | apply Grown.alloc)⟩
    · have hA' := of_decide_eq_true hA
      have ha : a4 ≤ a1 := hA'.1
      have hL : acc a4 a4 a5 = true := decide_eq_true (by omega)
      cases hB : acc a2 a4 a5
      all_goals cases hC : acc a3 a4 a5
      all_goals by_cases h1 : a1 ≤ a3
      all_goals by_cases h2 : a3 ≤ a2
      all_goals by_cases h3 : a4 = -9223372036854775808
      all_goals try (exfalso; have hB' := of_decide_eq_true hB; have hC' := of_decide_eq_false hC; omega)
      all_goals clear hA'
      all_goals try (subst h3; have hM : wrap64 (-9223372036854775809) = 9223372036854775807 := by unfold wrap64; omega)
      all_goals try (have h4 : -9223372036854775808 < a4 := by omega)
      all_goals try (have hM : acc (a4 - 1) a4 a5 = false := decide_eq_false (by omega))
      all_goals try clear h3
      all_goals
        try (have d1 : decide (a1 ≤ a3) = true := decide_eq_true h1)
        try (have d1 : decide (a1 ≤ a3) = false := decide_eq_false h1)
        try (have d2 : decide (a3 ≤ a2) = true := decide_eq_true h2)
        try (have d2 : decide (a3 ≤ a2) = false := decide_eq_false h2)
        clear h1 h2
        go_enter Try.func4, Try.ntmps4
        go_wp2_with (first | (go_at_call 7; refine (bytes_t _ _ _ _ _ _ _ hs').mono ?_; rintro e w' ⟨rfl, rfl⟩) | (go_at_call 6; refine (zz_t _ _ _ _ _ ?_).mono ?_; (first | exact hA | exact hB | exact hC | exact hL | exact hM); rintro e w' ⟨rfl, rfl⟩) | (go_at_call 6; refine (zz_f _ _ _ _ _ ?_).mono ?_; (first | exact hA | exact hB | exact hC | exact hL | exact hM); rintro e w' ⟨⟨x, rfl⟩, c, t, rfl⟩))
        go_ret
        exact ⟨rfl, by repeat (first | exact Grown.refl _ | apply Grown.drew | apply Grown.alloc)⟩
  · have hs' : (1048576 : Int) < (a0.size : Int) := by omega
    clear hs
    go_enter Try.func4, Try.ntmps4
    go_wp2
    go_ret
    exact ⟨rfl, Grown.refl _⟩

/-! ### THE ROW's STEP: WRITTEN OUT: LEAVE IT -/
set_option maxRecDepth 100000 in
theorem lifted (os : Os) (started : os.Started) (H : Type) (enc : TypeId × Value → H) :
    ReturnsInHanded {} Try.checked os 4 .any (Rows.fnCheckRangeAcceptsAnIntervalFromLoSpec.pre6 enc Try.prog Try.f4 Rows.fnCheckRangeAcceptsAnIntervalFromLoRow.domain false) (Rows.fnCheckRangeAcceptsAnIntervalFromLoSpec.post enc Try.prog Try.f4 false true false false) := by
  refine returnsInHanded_of_change (C := Try.checked) own started (by kernel_rfl) Try.func4
    (ChangeSpec.witness6 (enc := enc) (C := Try.checked) false ⟨#[], #[.string ByteArray.empty, .int .i64 0, .int .i64 0, .int .i64 0, .int .i64 0, .int .i64 0], []⟩ 8 (by kernel_rfl) (by kernel_rfl) (by kernel_rfl) (by kernel_rfl)) ?_
  intro W base args ds gs before hval0 hW hcnd _
  have hval : ∀ (j : Nat) t v, Try.f4.params[j]? = some t → args[j]? = some v → Value.okWide Try.prog W .any base t v := hval0
  have hW' := hW
  obtain ⟨p, q, hA0, hV, rfl, hfz, hnd⟩ := hW
  have hA : DataW.TrodAll enc Try.prog W 0 (fun _ => true) true Try.f4.params.toList args.toList ds p := hA0
  rw [Try.params4] at hA hval
  obtain ⟨v0, vs0, d0, ds0, p0, q0, hargs, rfl, rfl, h0, r0⟩ := trodAll_cons hA
  obtain ⟨v1, vs1, d1, ds1, p1, q1, rfl, rfl, rfl, h1, r1⟩ := trodAll_cons r0
  obtain ⟨v2, vs2, d2, ds2, p2, q2, rfl, rfl, rfl, h2, r2⟩ := trodAll_cons r1
  obtain ⟨v3, vs3, d3, ds3, p3, q3, rfl, rfl, rfl, h3, r3⟩ := trodAll_cons r2
  obtain ⟨v4, vs4, d4, ds4, p4, q4, rfl, rfl, rfl, h4, r4⟩ := trodAll_cons r3
  obtain ⟨v5, vs5, d5, ds5, p5, q5, rfl, rfl, rfl, h5, r5⟩ := trodAll_cons r4
  obtain ⟨rfl, rfl, rfl⟩ := trodAll_nil r5
  obtain rfl : args = #[v0, v1, v2, v3, v4, v5] := by cases args; simp_all
  obtain ⟨rfl, rfl⟩ := trodVars_none hV
  obtain ⟨a0, rfl, rfl, rfl, w0⟩ := open_string Try.underlying9 (hval 0 9 v0 rfl rfl) h0
  obtain ⟨a1, rfl, rfl, rfl, w1⟩ := open_int Try.underlying3 (hval 1 3 v1 rfl rfl) h1
  obtain ⟨a2, rfl, rfl, rfl, w2⟩ := open_int Try.underlying3 (hval 2 3 v2 rfl rfl) h2
  obtain ⟨a3, rfl, rfl, rfl, w3⟩ := open_int Try.underlying3 (hval 3 3 v3 rfl rfl) h3
  obtain ⟨a4, rfl, rfl, rfl, w4⟩ := open_int Try.underlying3 (hval 4 3 v4 rfl rfl) h4
  obtain ⟨a5, rfl, rfl, rfl, w5⟩ := open_int Try.underlying3 (hval 5 3 v5 rfl rfl) h5
  clear hA0 hval0
  simp only [List.append_nil] at hW'
  refine (walk a0 a1 a2 a3 a4 a5 w0 w1 w2 w3 w4 w5 W).mono fun e W' ⟨he, hg⟩ => ?_
  subst he
  exact ⟨_, rfl, post_of_same (pa := []) (pv := []) hW' (fun _ _ _ => (trodAll_cons_mk (shut_bool Try.underlying4 _) trodAll_mk0)) (fun sp _ => (trodAll_cons_mk (shut_string Try.underlying9 w0) (trodAll_cons_mk (shut_int Try.underlying3 w1) (trodAll_cons_mk (shut_int Try.underlying3 w2) (trodAll_cons_mk (shut_int Try.underlying3 w3) (trodAll_cons_mk (shut_int Try.underlying3 w4) (trodAll_cons_mk (shut_int Try.underlying3 w5) trodAll_mk0))))))) (fun _ _ => rfl) rfl
    (hg.frame _) hg.2.1 (ok_one (by kernel_rfl) rfl (okWide_bool_mk Try.underlying4 _))⟩

theorem over : Rows.fnCheckRangeAcceptsAnIntervalFromLoRow.holds Try.pinned (OpenSpec.ofChange Rows.fnCheckRangeAcceptsAnIntervalFromLoSpec) :=
  OpenClaim.holds_of_wide 4 Try.f4 rfl rfl rfl rfl rfl rfl rfl ⟨rfl, rfl, rfl, rfl, rfl⟩ rfl rfl rfl rfl rfl (by kernel_rfl) Try.func4 (by kernel_rfl)
    (of_decide_eq_true (by kernel_rfl)) (by unfold Func.isWrapper; first | (rw [if_pos (by decide +kernel)]; kernel_rfl) | (rw [if_neg (by decide +kernel)]; exact ⟨rfl, rfl⟩))
    (fun os started H enc _ => lifted os started H enc)

/-- ████ THE STATEMENT ████ -/
theorem proved : Rows.FnCheckRangeAcceptsAnIntervalFromLoSaid :=
  over
#print axioms proved
end Go.Proofs.Qxb6003400a.fnCheckRangeAcceptsAnIntervalFromLo

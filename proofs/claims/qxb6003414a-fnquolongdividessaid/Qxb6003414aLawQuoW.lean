/-
  THE WALK OF THE LAW FnQuoWordDivides.
-/
import Derived.Test.Qxb6003414aQuoW
import Derived.Test.Qxb6003414aLawRecip
namespace Go.Proofs.Qxb6003414a
open Go Go.RowKit

/-- A sum that is a number of n words, written in n + 1 words. -/
theorem sum_ext {Z S : List Int} {c : Int} {n : Nat} (hZ : Z.length = n) (hZw : AllW Z) (hS : S.length = n + 1) (hSw : AllW S) (hc0 : 0 ≤ c) (hc1 : c ≤ 1) (h : val S + c * pw (n + 1) = val Z) : c = 0 ∧ S = Z ++ [0] := by
  have h1 := val_lt hZw
  rw [hZ] at h1
  have h2 := val_nonneg hSw
  have h3 := pw_mono (show n ≤ n + 1 by omega)
  have hc : c = 0 := by
    rcases (by omega : c = 0 ∨ c = 1) with rfl | rfl
    · rfl
    · rw [Int.one_mul] at h; omega
  subst hc
  refine ⟨rfl, val_inj hSw (hZw.snoc W64.zero) (by simp; omega) ?_⟩
  rw [val_snoc]
  simp only [Int.mul_zero, Int.add_zero, Int.zero_mul] at h ⊢
  exact h

set_option maxHeartbeats 2000000 in
theorem lawQuoW_main (a0 : Option Addr) (n c0 : Nat) (Z : List Int) (d : Int) (w : World) (hin0 : In w a0 Z) (hl0 : Z.length = n) (hw0 : AllW Z) (hn1 : 1 ≤ n) (hn : n ≤ 64) (hd : W64 d) (hd0 : d ≠ 0) :
    Calls Try.prog 8 #[.slice a0 n c0, .int .u64 d] w fun e w' => e = .returned (.bool true) ∧ w.grownBy w' none := by
  have HZl : Hid (Z.length = n) := hl0
  have hne : Z ≠ [] := fun e => by rw [e] at hl0; simp at hl0; omega
  have g0 : ((n : Int) == 0) = false := by rw [beq_eq_false_iff_ne]; omega
  have g1 : decide ((64 : Int) < (n : Int)) = false := decide_eq_false (by omega)
  have g2 : (d == 0) = false := by rw [beq_eq_false_iff_ne]; exact hd0
  clear hl0
  go_enter Try.func8, Try.ntmps8
  go_wp2_with fail
  refine (bytes27 _ _ _ _ _ (by omega)).mono ?_
  rintro e w' ⟨rfl, hw⟩
  rw [hw]
  clear hw w'
  go_wp2_with fail
  refine (clone_in a0 n c0 Z _ hin0 HZl.out (by omega)).mono ?_
  rintro e wa ⟨b0, rfl, hO, ga⟩
  obtain ⟨gz, rfl, hgz, hz⟩ := hO.blk hne
  have sa := ga.size
  have lz := hz.lt
  have gB := ga
  clear hin0 hO ga
  go_wp2_with fail
  refine (clone_in _ n n Z _ hz.inn HZl.out (by omega)).mono ?_
  rintro e wb ⟨b1, rfl, hO, gb⟩
  obtain ⟨gq, rfl, hgq, hq⟩ := hO.blk hne
  have sb := gb.size
  have lq := hq.lt
  replace hz := hz.grown0 gb
  replace gB := grownBy_then0 gB gb
  clear hO gb
  go_wp2_with fail
  refine (zzquoWord_any gq n n Z d _ hq HZl.out hw0 hn1 (by omega) hd hd0).mono ?_
  rintro e wc ⟨Q, r, rfl, hQl, hQw, hr0, hr1, hQv, hq2, gc⟩
  have sc := gc.size
  replace hz := hz.grown' gc (by omega)
  replace gB := grownBy_then gB gc (by omega)
  have HQl : Hid (Q.length = n) := hQl
  have HQv : Hid (val Q * d + r = val Z) := hQv
  have g3 : decide (d ≤ r) = false := decide_eq_false (by omega)
  have hrw : W64 r := ⟨hr0, by have := hd.2; omega⟩
  clear gc hq hQl hQv
  go_wp2_with (at_make; refine wpList_mk rfl (.tmp 40) (.tmp 40) 22 rfl 25 Try.underlying22 info25 _ (n + 1) rfl rfl rfl (by omega) ?_)
  intro wd hp gd
  go_wp2_with fail
  obtain ⟨hO, gO, eO⟩ := blk_lit wd d 25
  have sd := gd.size
  have lp := hp.lt
  replace hz := (hz.grown0 gd).grown0 gO
  replace hq2 := (hq2.grown0 gd).grown0 gO
  replace hp := hp.grown0 gO
  replace gB := grownBy_then0 (grownBy_then0 gB gd) gO
  have lO := hO.lt
  rw [eO] at lO
  clear gd gO
  refine (zzmul_any wc.heap.size (n + 1) (n + 1) _ n n _ 1 1 Q [d] _ hp rfl hq2.inn HQl.out hQw hO.inn rfl (AllW.cons hd AllW.nil) (by omega)).mono ?_
  rintro e we ⟨rfl, P, hPl, hPw, hPv, hP, ge⟩
  have HPl : Hid (P.length = n + 1) := hPl
  have HPv : Hid (val P = val Q * d) := (show _ = _ by rw [hPv, val1])
  have se := ge.size
  rw [eO] at se
  replace hz := hz.grown' ge (by omega)
  replace gB := grownBy_then gB ge (by omega)
  clear ge hp hO eO hPl hPv hq2
  go_wp2_with (at_make; refine wpList_mk rfl (.tmp 48) (.tmp 48) 22 rfl 25 Try.underlying22 info25 _ (n + 1) rfl rfl rfl (by omega) ?_)
  intro wf hk gf
  go_wp2_with fail
  obtain ⟨hO, gO, eO⟩ := blk_lit wf r 25
  have sf := gf.size
  have lk := hk.lt
  replace hz := (hz.grown0 gf).grown0 gO
  replace hP := (hP.grown0 gf).grown0 gO
  replace hk := hk.grown0 gO
  replace gB := grownBy_then0 (grownBy_then0 gB gf) gO
  have lO := hO.lt
  rw [eO] at lO
  clear gf gO
  refine (zzadd_any we.heap.size (n + 1) (n + 1) _ (n + 1) _ 1 1 _ P [r] _ hk (by simp) hP.inn HPl.out hPw hO.inn rfl (AllW.cons hrw AllW.nil) (by omega) (by omega)).mono ?_
  rintro e wg ⟨S, c, rfl, hc0, hc1, hSl, hSw, hSv, hS, gg⟩
  have sg := gg.size
  rw [eO] at sg
  replace hz := hz.grown' gg (by omega)
  replace gB := grownBy_then gB gg (by omega)
  obtain ⟨hcz, hSe⟩ := sum_ext HZl.out hw0 hSl hSw hc0 hc1 (by rw [hSv, HPv.out, val1]; exact HQv.out)
  subst hcz
  subst hSe
  obtain ⟨hkc, _, _⟩ := ext_cell hS HZl.out
  have hE : eqB ((Z ++ [0]).take n) Z = true := eqB_true (by rw [List.take_append_of_le_length (by rw [HZl.out]; omega), List.take_of_length_le (by rw [HZl.out]; omega)])
  have HZt : Hid (((Z ++ [0]).take n).length = n) := (show _ = _ by have := HZl.out; simp; omega)
  clear gg hk hP hO eO hSl hSw hSv hc0 hc1 HPv HPl hPw HQv HQl hQw
  go_wp2_with fail
  refine (eq_in _ _ _ _ _ _ ((Z ++ [0]).take n) Z _ (hS.inn.take n) HZt.out hz.inn HZl.out (by omega)).mono ?_
  rintro e wh ⟨rfl, gh⟩
  rw [hE]
  have hc3 : wh.cell? ⟨we.heap.size, n, none⟩ = some (.int .u64 0) := gh.cell hkc (by simp)
  replace gB := grownBy_then0 gB gh
  clear gh hkc hS hz hE
  go_wp2
  go_ret
  exact ⟨rfl, gB⟩

theorem lawQuoW_skip (a0 : Option Addr) (n c0 : Nat) (d : Int) (w : World) (h : n = 0 ∨ 64 < n ∨ d = 0) :
    Calls Try.prog 8 #[.slice a0 n c0, .int .u64 d] w fun e w' => e = .returned (.bool true) ∧ w.grownBy w' none := by
  by_cases h0 : n = 0
  · subst h0
    clear h
    go_enter Try.func8, Try.ntmps8
    go_wp2
    all_goals (go_ret; exact ⟨rfl, grownBy_refl _ _⟩)
  · have g0 : ((n : Int) == 0) = false := by rw [beq_eq_false_iff_ne]; omega
    by_cases h1 : 64 < n
    · have d0 : decide ((64 : Int) < (n : Int)) = true := decide_eq_true (by omega)
      clear h h0
      go_enter Try.func8, Try.ntmps8
      go_wp2
      all_goals (go_ret; exact ⟨rfl, grownBy_refl _ _⟩)
    · obtain rfl : d = 0 := by omega
      have d0 : decide ((64 : Int) < (n : Int)) = false := decide_eq_false (by omega)
      clear h h0
      go_enter Try.func8, Try.ntmps8
      go_wp2
      all_goals (go_ret; exact ⟨rfl, grownBy_refl _ _⟩)
end Go.Proofs.Qxb6003414a

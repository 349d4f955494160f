/-
  THE WALK OF THE LAW FnMulSubWordsUndoneByAdd.
-/
import Derived.Test.Qxb6003414aMulSub
import Derived.Test.Qxb6003414aLawAdd
namespace Go.Proofs.Qxb6003414a
open Go Go.RowKit

/-- Two sums with carries, digits alike: carries and words are alike. -/
theorem carry_same {V T : List Int} {b c : Int} {n : Nat} (hV : V.length = n) (hVw : AllW V) (hT : T.length = n) (hTw : AllW T) (hb0 : 0 ≤ b) (hb1 : b ≤ 1) (hc0 : 0 ≤ c) (hc1 : c ≤ 1)
    (h : val T + c * pw n = val V + b * pw n) : c = b ∧ T = V := by
  have h1 := val_lt hVw
  have h2 := val_lt hTw
  rw [hV] at h1
  rw [hT] at h2
  have h3 := val_nonneg hVw
  have h4 := val_nonneg hTw
  have hcb : c = b := by
    rcases (by omega : c = 0 ∨ c = 1) with rfl | rfl <;> rcases (by omega : b = 0 ∨ b = 1) with rfl | rfl
    · rfl
    · simp at h; omega
    · simp at h; omega
    · rfl
  subst hcb
  exact ⟨rfl, val_inj hTw hVw (by omega) (by omega)⟩
/-- No borrow exactly where the subtrahend is no greater. -/
theorem borrow_iff {V R : List Int} {b p : Int} {n : Nat} (hVw : AllW V) (hR : R.length = n) (hRw : AllW R) (hb0 : 0 ≤ b) (hb1 : b ≤ 1) (h : val R + p = val V + b * pw n) : (b == 0) = decide (p ≤ val V) := by
  have h1 := val_lt hRw
  rw [hR] at h1
  have h2 := val_nonneg hRw
  have h3 := val_nonneg hVw
  rcases (by omega : b = 0 ∨ b = 1) with rfl | rfl
  · rw [decide_eq_true (by simp at h; omega)]; rfl
  · rw [decide_eq_false (by simp at h; omega)]; rfl
theorem cp_cut (Z : List Int) (n m : Nat) (h : Z.length = m) (hw : AllW Z) : (Z.take n ++ (List.replicate n 0).drop m).length = n ∧ AllW (Z.take n ++ (List.replicate n 0).drop m) := by
  refine ⟨?_, (hw.take n).append ((AllW.zeros n).drop m)⟩
  simp; omega
theorem cp_all {Z : List Int} {n : Nat} (h : Z.length = n) : Z.take n ++ (List.replicate n 0).drop n = Z := by
  rw [List.take_of_length_le (by omega), List.drop_of_length_le (by simp), List.append_nil]

set_option maxHeartbeats 2000000 in
theorem lawMulSub_small (a0 : Option Addr) (n0 c0 : Nat) (a1 : Option Addr) (n1 c1 : Nat) (U X : List Int) (m : Int) (w : World) (hin0 : In w a0 U) (hl0 : U.length = n0) (hw0 : AllW U) (hin1 : In w a1 X) (hl1 : X.length = n1) (hw1 : AllW X) (hm : W64 m) (h0 : n0 ≤ 65) (h1 : n1 ≤ 64) :
    Calls Try.prog 5 #[.slice a0 n0 c0, .slice a1 n1 c1, .int .u64 m] w fun e w' => e = .returned (.bool true) ∧ w.grownBy w' none := by
  have HUl : Hid (U.length = n0) := hl0
  have HXl : Hid (X.length = n1) := hl1
  have d0 : decide ((65 : Int) < (n0 : Int)) = false := decide_eq_false (by omega)
  have d1 : decide ((64 : Int) < (n1 : Int)) = false := decide_eq_false (by omega)
  clear hl0 hl1
  go_enter Try.func5, Try.ntmps5
  go_wp2_with fail
  refine (bytes19 _ _ _ _ _ _ _ _ (by omega) (by omega)).mono ?_
  rintro e w' ⟨rfl, hw⟩
  rw [hw]
  clear hw w'
  go_wp2_with fail
  refine (clone_in a0 n0 c0 U _ hin0 HUl.out (by omega)).mono ?_
  rintro e wa ⟨b0, rfl, hU, ga⟩
  go_wp2_with fail
  refine (clone_in a1 n1 c1 X _ (hin1.grown0 ga) HXl.out (by omega)).mono ?_
  rintro e wb ⟨b1, rfl, hX, gb⟩
  clear hin0 hin1
  have HX : Hid (∀ g o, b1 = some ⟨g, o, none⟩ → wa.heap.size ≤ g ∧ g < wb.heap.size) := hX.lt
  have sa := ga.size
  have sb := gb.size
  have gB := grownBy_then0 ga gb
  replace hU := hU.grown0 gb
  clear ga gb
  go_wp2_with (at_make; refine wpList_mk rfl (.tmp 34) (.tmp 34) 22 rfl 25 Try.underlying22 info25 _ (n1 + 1) rfl rfl rfl (by omega) ?_)
  intro wc hk gc
  have sc := gc.size
  have lk := hk.lt
  obtain ⟨wd, hr, hV, gd⟩ := run_cp (P := Try.prog) 22 22 3 25 Try.underlying22 size25 wb.heap.size b0 (n1 + 1) (n1 + 1) n0 n0 25 _ hk (List.length_replicate) _ U (hU.grown0 gc).inn.2 HUl.out
  obtain ⟨hVl, hVw⟩ := cp_cut U (n1 + 1) n0 HUl.out hw0
  generalize U.take (n1 + 1) ++ (List.replicate (n1 + 1) 0).drop n0 = V at hV hVl hVw
  have HVl : Hid (V.length = n1 + 1) := hVl
  have sd := gd.size
  replace hX := (hX.grown0 gc).grown gd (fun g e => by have := HX.out g 0 e; omega)
  replace gB := grownBy_then (grownBy_then0 gB gc) gd (by omega)
  clear hk gc gd hU hVl
  -- p
  go_wp2_with (at_make; refine wpList_mk rfl (.tmp 40) (.tmp 40) 22 rfl 25 Try.underlying22 info25 _ (n1 + 1) rfl rfl rfl (by omega) ?_)
  intro we hp ge
  clear hr
  go_wp2_with fail
  obtain ⟨hO, gO, eO⟩ := blk_lit we m 25
  have se := ge.size
  have lp := hp.lt
  replace hX := (hX.grown0 ge).grown0 gO
  replace hV := (hV.grown0 ge).grown0 gO
  replace hp := hp.grown0 gO
  replace gB := grownBy_then0 (grownBy_then0 gB ge) gO
  have lO := hO.lt
  rw [eO] at lO
  clear ge gO
  refine (zzmul_any wd.heap.size (n1 + 1) (n1 + 1) b1 n1 n1 _ 1 1 X [m] _ hp rfl hX.inn HXl.out hw1 hO.inn rfl (AllW.cons hm AllW.nil) (by omega)).mono ?_
  rintro e wf ⟨rfl, P, hPl, hPw, hPv, hP, gf⟩
  have HPl : Hid (P.length = n1 + 1) := hPl
  have HPv : Hid (val P = val X * m) := (show _ = _ by rw [hPv, val_cons, val_nil]; simp)
  have sf := gf.size
  rw [eO] at sf
  replace hX := hX.grown gf (fun g e => by have := HX.out g 0 e; omega)
  replace hV := hV.grown' gf (by omega)
  replace gB := grownBy_then gB gf (by omega)
  clear gf hp hO eO hPl hPv
  -- res
  go_wp2_with (at_make; refine wpList_mk rfl (.tmp 48) (.tmp 48) 22 rfl 25 Try.underlying22 info25 _ (n1 + 1) rfl rfl rfl (by omega) ?_)
  intro wg hk gg
  have sg := gg.size
  have lk2 := hk.lt
  replace hX := hX.grown0 gg
  replace hV := hV.grown0 gg
  replace hP := hP.grown0 gg
  replace gB := grownBy_then0 gB gg
  clear gg
  obtain ⟨wh, hr, hR, gh⟩ := run_cp (P := Try.prog) 22 22 3 25 Try.underlying22 size25 wf.heap.size (some ⟨wb.heap.size, 0, none⟩) (n1 + 1) (n1 + 1) (n1 + 1) (n1 + 1) 25 _ hk (List.length_replicate) _ V hV.inn.2 HVl.out
  rw [cp_all HVl.out] at hR
  have sh := gh.size
  replace hX := hX.grown gh (fun g e => by have := HX.out g 0 e; omega)
  replace hV := hV.grown' gh (by omega)
  replace hP := hP.grown' gh (by omega)
  replace gB := grownBy_then gB gh (by omega)
  clear hk gh
  go_wp2_with fail
  refine (zzmulSub_any wf.heap.size n1 (n1 + 1) b1 n1 V X m _ hR HVl.out hVw hX.inn HXl.out hw1 hm (by omega)).mono ?_
  rintro e wi ⟨R, b, rfl, hb0, hb1, hRl, hRw, hRv, hR2, gi⟩
  rw [← HPv.out] at hRv
  have HRv : Hid (val R + val P = val V + b * pw (n1 + 1)) := hRv
  have HRl : Hid (R.length = n1 + 1) := hRl
  have si := gi.size
  replace hV := hV.grown' gi (by omega)
  replace hP := hP.grown' gi (by omega)
  replace gB := grownBy_then gB gi (by omega)
  clear hr hR hRv hRl gi hX
  -- s
  go_wp2_with (at_make; refine wpList_mk rfl (.tmp 58) (.tmp 58) 22 rfl 25 Try.underlying22 info25 _ (n1 + 1) rfl rfl rfl (by omega) ?_)
  intro wj hk gj
  have sj := gj.size
  have lk3 := hk.lt
  replace hV := hV.grown0 gj
  replace hP := hP.grown0 gj
  replace hR2 := hR2.grown0 gj
  replace gB := grownBy_then0 gB gj
  clear gj
  go_wp2_with fail
  refine (zzadd_any wi.heap.size (n1 + 1) (n1 + 1) _ (n1 + 1) _ (n1 + 1) (n1 + 1) _ R P _ hk (by simp) hR2.inn HRl.out hRw hP.inn HPl.out hPw (Nat.le_refl _) (by omega)).mono ?_
  rintro e wk ⟨T, c, rfl, hc0, hc1, hTl, hTw, hTv, hk2, gk⟩
  obtain ⟨hcb, hTV⟩ := carry_same HVl.out hVw hTl hTw hb0 hb1 hc0 hc1 (by rw [hTv, HRv.out])
  subst hcb
  rw [hTV] at hk2
  have sk := gk.size
  replace hV := hV.grown' gk (by omega)
  replace hP := hP.grown' gk (by omega)
  replace gB := grownBy_then gB gk (by omega)
  have hbi := borrow_iff hVw HRl.out hRw hb0 hb1 HRv.out
  have hne : (c != c) = false := by simp
  clear gk hk hTl hTw hTv hTV hR2 HRv HRl hRw hc0 hc1 hb0 hb1
  go_wp2_with fail
  refine (eq_in _ _ _ _ _ _ V V _ hk2.inn HVl.out hV.inn HVl.out (by omega)).mono ?_
  rintro e wl ⟨rfl, gl⟩
  rw [eqB_true rfl]
  have sl := gl.size
  replace hV := hV.grown0 gl
  replace hP := hP.grown0 gl
  replace gB := grownBy_then0 gB gl
  clear gl hk2
  have Hbi : Hid ((c == 0) = decide (val P ≤ val V)) := hbi
  clear hbi
  have finish : ∀ d : Bool, decide (val P ≤ val V) = d → ∀ r : Int, r = cmpI (val V) (val P) → (c == 0) = d ∧ decide (0 ≤ r) = d := by
    intro d hd r hr
    refine ⟨by rw [Hbi.out, hd], ?_⟩
    rw [← hd, hr]
    have := (cmpI_facts (val V) (val P)).2.2.2.2.1
    by_cases h : val P ≤ val V
    · rw [decide_eq_true h, decide_eq_true (this.2 h)]
    · rw [decide_eq_false h, decide_eq_false (fun e => h (this.1 e))]
  have HF : Hid (∀ d : Bool, decide (val P ≤ val V) = d → ∀ r : Int, r = cmpI (val V) (val P) → (c == 0) = d ∧ decide (0 ≤ r) = d) := finish
  clear finish Hbi
  cases hd : decide (val P ≤ val V)
  all_goals
    obtain ⟨f1, f2⟩ := HF.out _ hd _ rfl
    have Hf2 := f2
    have HF2 : Hid (decide (0 ≤ cmpI (val V) (val P)) = _) := Hf2
    clear f2 Hf2 hd
    go_wp2_with fail
    refine (trim_any _ _ _ V _ hV.inn HVl.out (Nat.le_refl _) (fun e => by cases e) (by omega)).mono ?_
    rintro e w' ⟨k1, rfl, hk1, hv1, ht1, hw⟩
    rw [hw]
    clear hw w'
    have Hv1 : Hid (val (V.take k1) = val V) := hv1
    have Hk1 : Hid ((V.take k1).length = k1) := (show _ = _ by have := HVl.out; rw [List.length_take]; omega)
    clear hv1
    go_wp2_with fail
    refine (trim_any _ _ _ P _ hP.inn HPl.out (Nat.le_refl _) (fun e => by cases e) (by omega)).mono ?_
    rintro e w' ⟨k2, rfl, hk2, hv2, ht2, hw⟩
    rw [hw]
    clear hw w'
    have Hv2 : Hid (val (P.take k2) = val P) := hv2
    have Hk2 : Hid ((P.take k2).length = k2) := (show _ = _ by have := HPl.out; rw [List.length_take]; omega)
    clear hv2
    go_wp2_with fail
    refine (zzcmp_any _ _ _ _ _ _ (V.take k1) (P.take k2) _ (hV.inn.take k1) Hk1.out (hVw.take k1) ht1 (hP.inn.take k2) Hk2.out (hPw.take k2) ht2 (by omega) (by omega)).mono ?_
    rintro e wm ⟨rfl, gm⟩
    rw [Hv1.out, Hv2.out]
    have f2 := HF2.out
    replace gB := grownBy_then0 gB gm
    clear gm Hv1 Hv2 Hk1 Hk2 hV hP
    go_wp2
    go_ret
    exact ⟨rfl, gB⟩

theorem lawMulSub_big (a0 : Option Addr) (n0 c0 : Nat) (a1 : Option Addr) (n1 c1 : Nat) (m : Int) (w : World) (h : 65 < n0 ∨ 64 < n1) :
    Calls Try.prog 5 #[.slice a0 n0 c0, .slice a1 n1 c1, .int .u64 m] w fun e w' => e = .returned (.bool true) ∧ w.grownBy w' none := by
  by_cases h0 : 64 < n1
  · clear h
    have d0 : decide ((64 : Int) < (n1 : Int)) = true := decide_eq_true (by omega)
    go_enter Try.func5, Try.ntmps5
    go_wp2
    all_goals (go_ret; exact ⟨rfl, grownBy_refl _ _⟩)
  · have h1 : 65 < n0 := by omega
    have d0 : decide ((64 : Int) < (n1 : Int)) = false := decide_eq_false (by omega)
    have d1 : decide ((65 : Int) < (n0 : Int)) = true := decide_eq_true (by omega)
    clear h
    go_enter Try.func5, Try.ntmps5
    go_wp2
    all_goals (go_ret; exact ⟨rfl, grownBy_refl _ _⟩)
end Go.Proofs.Qxb6003414a

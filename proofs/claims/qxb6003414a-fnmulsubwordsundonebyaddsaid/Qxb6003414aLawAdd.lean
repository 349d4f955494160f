/-
  THE WALK OF THE LAW FnAddSubInverse.
-/
import Derived.Test.Qxb6003414aAddZZ
import Derived.Test.Qxb6003414aLawShl
namespace Go.Proofs.Qxb6003414a
open Go Go.RowKit

/-- The sum's words taken back. -/
theorem sub_back {L Z BK : List Int} {c b S : Int} {n : Nat} (hL : L.length = n) (hLw : AllW L) (hZl : Z.length = n) (hB : BK.length = n + 1) (hBw : AllW BK) (hb0 : 0 ≤ b) (hb1 : b ≤ 1)
    (h : val Z + c * pw n = val L + S) (h2 : val BK - b * pw (n + 1) = val (Z ++ [c]) - S) : BK = L ++ [0] := by
  have e1 : val (Z ++ [c]) = val L + S := by rw [val_snoc, hZl, Int.mul_comm]; exact h
  have h3 := val_nonneg hLw
  have h4 := val_lt hBw
  rw [hB] at h4
  have hb : b = 0 := by
    rcases (by omega : b = 0 ∨ b = 1) with rfl | rfl
    · rfl
    · rw [Int.one_mul] at h2; omega
  subst hb
  refine val_inj hBw (hLw.snoc W64.zero) (by simp; omega) ?_
  rw [val_snoc]
  simp only [Int.mul_zero, Int.add_zero, Int.zero_mul, Int.sub_zero] at h2 ⊢
  omega
theorem ext_val {L : List Int} : val (L ++ [0]) = val L := by rw [val_snoc]; simp
/-- A difference of words without a borrow. -/
theorem sub_exact {L D : List Int} {b S : Int} {n : Nat} (_hLl : L.length = n) (hD : D.length = n) (hDw : AllW D) (hb0 : 0 ≤ b) (hb1 : b ≤ 1) (hge : S ≤ val L) (h : val D - b * pw n = val L - S) : val D = val L - S := by
  have h4 := val_lt hDw
  rw [hD] at h4
  rcases (by omega : b = 0 ∨ b = 1) with rfl | rfl
  · simpa using h
  · rw [Int.one_mul] at h; omega
theorem add_exact {L Z : List Int} {c : Int} {n : Nat} (hL : L.length = n) (hLw : AllW L) (hZ : Z.length = n) (hZw : AllW Z) (hc0 : 0 ≤ c) (hc1 : c ≤ 1) (h : val Z + c * pw n = val L) : c = 0 ∧ Z = L := by
  have h4 := val_lt hLw
  rw [hL] at h4
  have h5 := val_nonneg hZw
  rcases (by omega : c = 0 ∨ c = 1) with rfl | rfl
  · exact ⟨rfl, val_inj hZw hLw (by omega) (by simpa using h)⟩
  · rw [Int.one_mul] at h; omega
theorem eqB_trim {X Y : List Int} {a b : Int} (hX : AllW X) (hY : AllW Y) (tX : Trimmed X) (tY : Trimmed Y) (ha : val X = a) (hb : val Y = b) : eqB X Y = decide (a = b) := by
  by_cases h : a = b
  · rw [decide_eq_true h]; exact eqB_true (trimmed_inj hX hY tX tY (by omega))
  · rw [decide_eq_false h]; exact decide_eq_false (fun e => h (by rw [← ha, ← hb, e]))

set_option maxHeartbeats 2000000 in
theorem lawAdd_ge (a0 : Option Addr) (n0 c0 : Nat) (a1 : Option Addr) (n1 c1 : Nat) (X Y : List Int) (w : World) (hin0 : In w a0 X) (hl0 : X.length = n0) (hw0 : AllW X) (hin1 : In w a1 Y) (hl1 : Y.length = n1) (hw1 : AllW Y) (h0 : n0 ≤ 64) (h1 : n1 ≤ 64) (hsw : n1 ≤ n0) :
    Calls Try.prog 3 #[.slice a0 n0 c0, .slice a1 n1 c1] w fun e w' => e = .returned (.bool true) ∧ w.grownBy w' none := by
  have HXl : Hid (X.length = n0) := hl0
  have HYl : Hid (Y.length = n1) := hl1
  have d0 : decide ((64 : Int) < (n0 : Int)) = false := decide_eq_false (by omega)
  have d1 : decide ((64 : Int) < (n1 : Int)) = false := decide_eq_false (by omega)
  have d2 : decide ((n0 : Int) < (n1 : Int)) = false := decide_eq_false (by omega)
  clear hl0 hl1
  go_enter Try.func3, Try.ntmps3
  go_wp2_with fail
  refine (bytes10 _ _ _ _ _ _ _ (by omega) (by omega)).mono ?_
  rintro e w' ⟨rfl, hw⟩
  rw [hw]
  clear hw w'
  go_wp2_with fail
  refine (clone_in a0 n0 c0 X _ hin0 HXl.out (by omega)).mono ?_
  rintro e wa ⟨b0, rfl, hX, ga⟩
  go_wp2_with fail
  refine (clone_in a1 n1 c1 Y _ (hin1.grown0 ga) HYl.out (by omega)).mono ?_
  rintro e wb ⟨b1, rfl, hY, gb⟩
  clear hin0 hin1
  have HX : Hid (∀ g o, b0 = some ⟨g, o, none⟩ → w.heap.size ≤ g ∧ g < wa.heap.size) := hX.lt
  have HY : Hid (∀ g o, b1 = some ⟨g, o, none⟩ → wa.heap.size ≤ g ∧ g < wb.heap.size) := hY.lt
  have HnX : Hid (b0 = none → n0 = 0) := fun e => by rw [← HXl.out, hX.inn.1 e]; rfl
  have HnY : Hid (b1 = none → n1 = 0) := fun e => by rw [← HYl.out, hY.inn.1 e]; rfl
  have sa := ga.size
  have sb := gb.size
  have gB := grownBy_then0 ga gb
  replace hX := hX.grown0 gb
  clear ga gb
  go_wp2_with (at_make; refine wpList_mk rfl _ _ 22 rfl 25 Try.underlying22 info25 _ n0 rfl rfl rfl (by omega) ?_; intro wc hz gc)
  have sc := gc.size
  have lz := hz.lt
  replace hX := hX.grown0 gc
  replace hY := hY.grown0 gc
  refine (zzadd_any wb.heap.size n0 n0 b0 n0 b1 n1 n1 _ X Y _ hz (by simp) hX.inn HXl.out hw0 hY.inn HYl.out hw1 (by omega) (by omega)).mono ?_
  rintro e wd ⟨Z, c, rfl, hc0, hc1, hZl, hZw, hZv, hz2, gd⟩
  have HZl : Hid (Z.length = n0) := hZl
  have HZv : Hid (val Z + c * pw n0 = val X + val Y) := hZv
  have sd := gd.size
  replace hX := hX.grown gd (fun g e => by have := HX.out g 0 e; omega)
  replace hY := hY.grown gd (fun g e => by have := HY.out g 0 e; omega)
  replace gB := grownBy_then (grownBy_then0 gB gc) gd (by omega)
  clear hZl hZv hz gc gd
  -- zc
  go_wp2_with (at_make; refine wpList_mk rfl (.tmp 50) (.tmp 50) 22 rfl 25 Try.underlying22 info25 _ (n0 + 1) rfl rfl rfl (by omega) ?_)
  intro we hk ge
  obtain ⟨wf, hr, hk2, gf⟩ := run_cp (P := Try.prog) 22 22 3 25 Try.underlying22 size25 wd.heap.size (some ⟨wb.heap.size, 0, none⟩) (n0 + 1) (n0 + 1) n0 n0 25 _ hk (List.length_replicate) _ Z (hz2.grown0 ge).inn.2 HZl.out
  rw [cp_ext HZl.out] at hk2
  obtain ⟨hkc, hkf, hkb⟩ := ext_cell hk2 HZl.out
  replace hkb := hkb c
  have se := ge.size
  have sf := gf.size
  have lk := hk.lt
  have gs := grownBy_set (i := n0) (v := .int .u64 c) (grownBy_refl wf (some wd.heap.size))
  replace hX := ((hX.grown0 ge).grown gf (fun g e => by have := HX.out g 0 e; omega)).grown gs (fun g e => by have := HX.out g 0 e; omega)
  replace hY := ((hY.grown0 ge).grown gf (fun g e => by have := HY.out g 0 e; omega)).grown gs (fun g e => by have := HY.out g 0 e; omega)
  replace gB := grownBy_then (grownBy_then (grownBy_then0 gB ge) gf (by omega)) gs (by omega)
  have ez : (wf.setCell ⟨wd.heap.size, n0, none⟩ (.int .u64 c)).heap.size = wf.heap.size := by simp
  clear hz2 hk ge hk2 gf gs
  -- xe
  go_wp2_with (at_make; refine wpList_mk rfl (.tmp 60) (.tmp 60) 22 rfl 25 Try.underlying22 info25 _ (n0 + 1) rfl rfl rfl (by omega) ?_)
  intro wg hx gg
  have sg := gg.size
  rw [ez] at sg
  have lx := hx.lt
  clear hr hkc hkf ez
  replace hX := hX.grown0 gg
  replace hY := hY.grown0 gg
  replace hkb := hkb.grown0 gg
  replace gB := grownBy_then0 gB gg
  obtain ⟨wh, hr, hx2, gh⟩ := run_cp (P := Try.prog) 22 22 3 25 Try.underlying22 size25 wf.heap.size b0 (n0 + 1) (n0 + 1) n0 n0 25 _ hx (List.length_replicate) _ X hX.inn.2 HXl.out
  rw [cp_ext HXl.out] at hx2
  have sh := gh.size
  replace hX := hX.grown gh (fun g e => by have := HX.out g 0 e; omega)
  replace hY := hY.grown gh (fun g e => by have := HY.out g 0 e; omega)
  replace hkb := hkb.grown' gh (by omega)
  replace gB := grownBy_then gB gh (by omega)
  clear gg hx gh
  -- back
  go_wp2_with (at_make; refine wpList_mk rfl (.tmp 66) (.tmp 66) 22 rfl 25 Try.underlying22 info25 _ (n0 + 1) rfl rfl rfl (by omega) ?_)
  intro wi hk gi
  have si := gi.size
  have lk2 := hk.lt
  clear hr
  replace hX := hX.grown0 gi
  replace hY := hY.grown0 gi
  replace hkb := hkb.grown0 gi
  replace hx2 := hx2.grown0 gi
  replace gB := grownBy_then0 gB gi
  clear gi
  have hcw : W64 c := ⟨hc0, by omega⟩
  have hZC := hZw.snoc hcw
  have HZCl : Hid ((Z ++ [c]).length = n0 + 1) := (show _ = _ by simp [HZl.out])
  go_wp2_with fail
  refine (zzsub_any wh.heap.size (n0 + 1) (n0 + 1) _ _ b1 n1 n1 _ (Z ++ [c]) Y _ hk (by simp) hkb.inn HZCl.out hZC hY.inn HYl.out hw1 (by omega) (by omega)).mono ?_
  rintro e wj ⟨rfl, BK, b, hb0, hb1, hBl, hBw, hBv, hk3, gj⟩
  have hBe : BK = X ++ [0] := sub_back HXl.out hw0 HZl.out hBl hBw hb0 hb1 HZv.out hBv
  subst hBe
  have sj := gj.size
  replace hX := hX.grown gj (fun g e => by have := HX.out g 0 e; omega)
  replace hY := hY.grown gj (fun g e => by have := HY.out g 0 e; omega)
  replace hkb := hkb.grown' gj (by omega)
  replace hx2 := hx2.grown' gj (by omega)
  replace gB := grownBy_then gB gj (by omega)
  clear gj hk hBl hBv hb0 hb1
  have HLe : Hid ((X ++ [0]).length = n0 + 1) := (show _ = _ by simp [HXl.out])
  go_wp2_with fail
  refine (eq_in _ _ _ _ _ _ (X ++ [0]) (X ++ [0]) _ hk3.inn HLe.out hx2.inn HLe.out (by omega)).mono ?_
  rintro e wk ⟨rfl, gk⟩
  rw [eqB_true rfl]
  have sk := gk.size
  replace hX := hX.grown0 gk
  replace hY := hY.grown0 gk
  replace hkb := hkb.grown0 gk
  replace hx2 := hx2.grown0 gk
  replace gB := grownBy_then0 gB gk
  clear gk hk3
  -- the two comparisons with the sum
  have hLn := val_nonneg hw0
  have hSn := val_nonneg hw1
  have HvZC : Hid (val (Z ++ [c]) = val X + val Y) := (show _ = _ by rw [val_snoc, HZl.out, Int.mul_comm]; exact HZv.out)
  go_wp2_with fail
  refine (trim_any _ _ _ (Z ++ [c]) _ hkb.inn HZCl.out (Nat.le_refl _) (fun e => by cases e) (by omega)).mono ?_
  rintro e w' ⟨k1, rfl, hk1, hv1, ht1, hw⟩
  rw [hw]
  clear hw w'
  have Hv1 : Hid (val ((Z ++ [c]).take k1) = val (Z ++ [c])) := hv1
  have Hk1 : Hid (((Z ++ [c]).take k1).length = k1) := (show _ = _ by have := HZCl.out; rw [List.length_take]; omega)
  clear hv1
  go_wp2_with fail
  refine (trim_any _ _ _ (X ++ [0]) _ hx2.inn HLe.out (Nat.le_refl _) (fun e => by cases e) (by omega)).mono ?_
  rintro e w' ⟨k2, rfl, hk2, hv2, ht2, hw⟩
  rw [hw]
  clear hw w'
  have Hv2 : Hid (val ((X ++ [0]).take k2) = val X) := (show _ = _ by rw [hv2, ext_val])
  have Hk2 : Hid (((X ++ [0]).take k2).length = k2) := (show _ = _ by have := HLe.out; rw [List.length_take]; omega)
  clear hv2
  go_wp2_with fail
  refine (zzcmp_any _ _ _ _ _ _ ((Z ++ [c]).take k1) ((X ++ [0]).take k2) _ (hkb.inn.take k1) Hk1.out (hZC.take k1) ht1 (hx2.inn.take k2) Hk2.out ((hw0.snoc W64.zero).take k2) ht2 (by omega) (by omega)).mono ?_
  rintro e wl ⟨rfl, gl⟩
  obtain ⟨r1, hr1⟩ : ∃ r1, r1 = cmpI (val ((Z ++ [c]).take k1)) (val ((X ++ [0]).take k2)) := ⟨_, rfl⟩
  rw [← hr1]
  have hr1' : 0 ≤ r1 := by rw [hr1, (cmpI_facts _ _).2.2.2.2.1, Hv1.out, Hv2.out, HvZC.out]; omega
  have hd1 : decide (r1 < 0) = false := decide_eq_false (by omega)
  have sl := gl.size
  replace hX := hX.grown0 gl
  replace hY := hY.grown0 gl
  replace hkb := hkb.grown0 gl
  replace gB := grownBy_then0 gB gl
  clear gl hx2 hr1 Hv1 Hk1 Hv2 Hk2 ht1 ht2
  go_wp2_with fail
  refine (trim_any _ _ _ (Z ++ [c]) _ hkb.inn HZCl.out (Nat.le_refl _) (fun e => by cases e) (by omega)).mono ?_
  rintro e w' ⟨k1, rfl, hk1, hv1, ht1, hw⟩
  rw [hw]
  clear hw w'
  have Hv1 : Hid (val ((Z ++ [c]).take k1) = val (Z ++ [c])) := hv1
  have Hk1 : Hid (((Z ++ [c]).take k1).length = k1) := (show _ = _ by have := HZCl.out; rw [List.length_take]; omega)
  clear hv1
  go_wp2_with fail
  refine (trim_any b1 n1 n1 Y _ hY.inn HYl.out (Nat.le_refl _) HnY.out (by omega)).mono ?_
  rintro e w' ⟨k2, rfl, hk2, hv2, ht2, hw⟩
  rw [hw]
  clear hw w'
  have Hv2 : Hid (val (Y.take k2) = val Y) := hv2
  have Hk2 : Hid ((Y.take k2).length = k2) := (show _ = _ by have := HYl.out; rw [List.length_take]; omega)
  clear hv2
  go_wp2_with fail
  refine (zzcmp_any _ _ _ _ _ _ ((Z ++ [c]).take k1) (Y.take k2) _ (hkb.inn.take k1) Hk1.out (hZC.take k1) ht1 (hY.inn.take k2) Hk2.out (hw1.take k2) ht2 (by omega) (by omega)).mono ?_
  rintro e wm ⟨rfl, gm⟩
  obtain ⟨r2, hr2⟩ : ∃ r2, r2 = cmpI (val ((Z ++ [c]).take k1)) (val (Y.take k2)) := ⟨_, rfl⟩
  rw [← hr2]
  have hr2' : 0 ≤ r2 := by rw [hr2, (cmpI_facts _ _).2.2.2.2.1, Hv1.out, Hv2.out, HvZC.out]; omega
  have hd2 : decide (r2 < 0) = false := decide_eq_false (by omega)
  have sm := gm.size
  replace hX := hX.grown0 gm
  replace hY := hY.grown0 gm
  replace gB := grownBy_then0 gB gm
  clear gm hkb hr2 Hv1 Hk1 Hv2 Hk2 ht1 ht2 hZC HZCl HvZC HZv HZl hZw hcw hc0 hc1 HLe hk1 hk2
  -- xt, yt
  go_wp2_with fail
  refine (trim_any b0 n0 n0 X _ hX.inn HXl.out (Nat.le_refl _) HnX.out (by omega)).mono ?_
  rintro e w' ⟨k1, rfl, hk1, hv1, ht1, hw⟩
  rw [hw]
  clear hw w'
  have Hv1 : Hid (val (X.take k1) = val X) := hv1
  have Hk1 : Hid ((X.take k1).length = k1) := (show _ = _ by have := HXl.out; rw [List.length_take]; omega)
  clear hv1
  go_wp2_with fail
  refine (trim_any b1 n1 n1 Y _ hY.inn HYl.out (Nat.le_refl _) HnY.out (by omega)).mono ?_
  rintro e w' ⟨k2, rfl, hk2, hv2, ht2, hw⟩
  rw [hw]
  clear hw w'
  have Hv2 : Hid (val (Y.take k2) = val Y) := hv2
  have Hk2 : Hid ((Y.take k2).length = k2) := (show _ = _ by have := HYl.out; rw [List.length_take]; omega)
  clear hv2
  go_wp2_with fail
  refine (zzcmp_any _ _ _ _ _ _ (X.take k1) (Y.take k2) _ (hX.inn.take k1) Hk1.out (hw0.take k1) ht1 (hY.inn.take k2) Hk2.out (hw1.take k2) ht2 (by omega) (by omega)).mono ?_
  rintro e wn ⟨rfl, gn⟩
  rw [Hv1.out, Hv2.out]
  have sn := gn.size
  replace hX := hX.grown0 gn
  replace hY := hY.grown0 gn
  replace gB := grownBy_then0 gB gn
  clear gn
  go_wp2_with fail
  refine (zzcmp_any _ _ _ _ _ _ (Y.take k2) (X.take k1) _ (hY.inn.take k2) Hk2.out (hw1.take k2) ht2 (hX.inn.take k1) Hk1.out (hw0.take k1) ht1 (by omega) (by omega)).mono ?_
  rintro e wo ⟨rfl, go⟩
  rw [Hv1.out, Hv2.out]
  have so := go.size
  replace hX := hX.grown0 go
  replace hY := hY.grown0 go
  replace gB := grownBy_then0 gB go
  clear go
  have hEq := eqB_trim (hw0.take k1) (hw1.take k2) ht1 ht2 Hv1.out Hv2.out
  clear Hv1 Hv2 ht1 ht2
  rcases Int.lt_trichotomy (val X) (val Y) with hlt | heq | hgt
  · rw [cmpI_lt hlt, cmpI_gt hlt]
    rw [decide_eq_false (by omega)] at hEq
    have HEq : Hid (eqB (X.take k1) (Y.take k2) = false) := hEq
    clear hEq hlt
    go_wp2_with fail
    refine (eq_in _ _ _ _ _ _ (X.take k1) (Y.take k2) _ (hX.inn.take k1) Hk1.out (hY.inn.take k2) Hk2.out (by omega)).mono ?_
    rintro e wp ⟨rfl, gp⟩
    rw [HEq.out]
    replace gB := grownBy_then0 gB gp
    clear gp
    go_wp2
    go_ret
    exact ⟨rfl, gB⟩
  · have e1 : cmpI (val X) (val Y) = 0 := by rw [heq, cmpI_eq]
    have e2 : cmpI (val Y) (val X) = 0 := by rw [heq, cmpI_eq]
    rw [e1, e2]
    clear e1 e2
    rw [decide_eq_true heq] at hEq
    have HEq : Hid (eqB (X.take k1) (Y.take k2) = true) := hEq
    clear hEq
    go_wp2_with fail
    refine (eq_in _ _ _ _ _ _ (X.take k1) (Y.take k2) _ (hX.inn.take k1) Hk1.out (hY.inn.take k2) Hk2.out (by omega)).mono ?_
    rintro e wp ⟨rfl, gp⟩
    rw [HEq.out]
    have sp := gp.size
    replace hX := hX.grown0 gp
    replace hY := hY.grown0 gp
    replace gB := grownBy_then0 gB gp
    clear gp HEq Hk1 Hk2
    have Hge : Hid (val Y ≤ val X) := (show _ ≤ _ by omega)
    clear heq
    go_wp2_with (at_make; refine wpList_mk rfl (.tmp 120) (.tmp 120) 22 rfl 25 Try.underlying22 info25 _ n0 rfl rfl rfl (by omega) ?_)
    intro wq hd gq
    have sq := gq.size
    have ld := hd.lt
    replace hX := hX.grown0 gq
    replace hY := hY.grown0 gq
    replace gB := grownBy_then0 gB gq
    clear gq
    go_wp2_with fail
    refine (zzsub_any wp.heap.size n0 n0 b0 n0 b1 n1 n1 _ X Y _ hd (by simp) hX.inn HXl.out hw0 hY.inn HYl.out hw1 (by omega) (by omega)).mono ?_
    rintro e wr ⟨rfl, D, b, hb0, hb1, hDl, hDw, hDv, hd2, gr⟩
    have HDv : Hid (val D = val X - val Y) := sub_exact HXl.out hDl hDw hb0 hb1 Hge.out hDv
    have HDl : Hid (D.length = n0) := hDl
    have sr := gr.size
    replace hX := hX.grown gr (fun g e => by have := HX.out g 0 e; omega)
    replace hY := hY.grown gr (fun g e => by have := HY.out g 0 e; omega)
    replace gB := grownBy_then gB gr (by omega)
    clear gr hd hb0 hb1 hDl hDv
    go_wp2_with (at_make; refine wpList_mk rfl (.tmp 126) (.tmp 126) 22 rfl 25 Try.underlying22 info25 _ n0 rfl rfl rfl (by omega) ?_)
    intro ws he gs
    have ss := gs.size
    have le := he.lt
    replace hX := hX.grown0 gs
    replace hY := hY.grown0 gs
    replace hd2 := hd2.grown0 gs
    replace gB := grownBy_then0 gB gs
    clear gs
    go_wp2_with fail
    refine (zzadd_any wr.heap.size n0 n0 _ n0 b1 n1 n1 _ D Y _ he (by simp) hd2.inn HDl.out hDw hY.inn HYl.out hw1 (by omega) (by omega)).mono ?_
    rintro e wt ⟨T, c2, rfl, hb0, hb1, hTl, hTw, hTv, he2, gt⟩
    obtain ⟨hc2, hTe⟩ := add_exact HXl.out hw0 hTl hTw hb0 hb1 (by rw [hTv, HDv.out]; omega)
    subst hc2
    subst hTe
    have st := gt.size
    replace hX := hX.grown gt (fun g e => by have := HX.out g 0 e; omega)
    replace gB := grownBy_then gB gt (by omega)
    clear gt he hd2 hTl hTv hb0 hb1 hTw HDv HDl hDw
    go_wp2_with fail
    refine (eq_in _ _ _ _ _ _ _ _ _ he2.inn HXl.out hX.inn HXl.out (by omega)).mono ?_
    rintro e wu ⟨rfl, gu⟩
    rw [eqB_true rfl]
    replace gB := grownBy_then0 gB gu
    clear gu he2
    go_wp2
    go_ret
    exact ⟨rfl, gB⟩
  · rw [cmpI_gt hgt, cmpI_lt hgt]
    rw [decide_eq_false (by omega)] at hEq
    have HEq : Hid (eqB (X.take k1) (Y.take k2) = false) := hEq
    clear hEq
    go_wp2_with fail
    refine (eq_in _ _ _ _ _ _ (X.take k1) (Y.take k2) _ (hX.inn.take k1) Hk1.out (hY.inn.take k2) Hk2.out (by omega)).mono ?_
    rintro e wp ⟨rfl, gp⟩
    rw [HEq.out]
    have sp := gp.size
    replace hX := hX.grown0 gp
    replace hY := hY.grown0 gp
    replace gB := grownBy_then0 gB gp
    clear gp HEq Hk1 Hk2
    have Hge : Hid (val Y ≤ val X) := (show _ ≤ _ by omega)
    clear hgt
    go_wp2_with (at_make; refine wpList_mk rfl (.tmp 120) (.tmp 120) 22 rfl 25 Try.underlying22 info25 _ n0 rfl rfl rfl (by omega) ?_)
    intro wq hd gq
    have sq := gq.size
    have ld := hd.lt
    replace hX := hX.grown0 gq
    replace hY := hY.grown0 gq
    replace gB := grownBy_then0 gB gq
    clear gq
    go_wp2_with fail
    refine (zzsub_any wp.heap.size n0 n0 b0 n0 b1 n1 n1 _ X Y _ hd (by simp) hX.inn HXl.out hw0 hY.inn HYl.out hw1 (by omega) (by omega)).mono ?_
    rintro e wr ⟨rfl, D, b, hb0, hb1, hDl, hDw, hDv, hd2, gr⟩
    have HDv : Hid (val D = val X - val Y) := sub_exact HXl.out hDl hDw hb0 hb1 Hge.out hDv
    have HDl : Hid (D.length = n0) := hDl
    have sr := gr.size
    replace hX := hX.grown gr (fun g e => by have := HX.out g 0 e; omega)
    replace hY := hY.grown gr (fun g e => by have := HY.out g 0 e; omega)
    replace gB := grownBy_then gB gr (by omega)
    clear gr hd hb0 hb1 hDl hDv
    go_wp2_with (at_make; refine wpList_mk rfl (.tmp 126) (.tmp 126) 22 rfl 25 Try.underlying22 info25 _ n0 rfl rfl rfl (by omega) ?_)
    intro ws he gs
    have ss := gs.size
    have le := he.lt
    replace hX := hX.grown0 gs
    replace hY := hY.grown0 gs
    replace hd2 := hd2.grown0 gs
    replace gB := grownBy_then0 gB gs
    clear gs
    go_wp2_with fail
    refine (zzadd_any wr.heap.size n0 n0 _ n0 b1 n1 n1 _ D Y _ he (by simp) hd2.inn HDl.out hDw hY.inn HYl.out hw1 (by omega) (by omega)).mono ?_
    rintro e wt ⟨T, c2, rfl, hb0, hb1, hTl, hTw, hTv, he2, gt⟩
    obtain ⟨hc2, hTe⟩ := add_exact HXl.out hw0 hTl hTw hb0 hb1 (by rw [hTv, HDv.out]; omega)
    subst hc2
    subst hTe
    have st := gt.size
    replace hX := hX.grown gt (fun g e => by have := HX.out g 0 e; omega)
    replace gB := grownBy_then gB gt (by omega)
    clear gt he hd2 hTl hTv hb0 hb1 hTw HDv HDl hDw
    go_wp2_with fail
    refine (eq_in _ _ _ _ _ _ _ _ _ he2.inn HXl.out hX.inn HXl.out (by omega)).mono ?_
    rintro e wu ⟨rfl, gu⟩
    rw [eqB_true rfl]
    replace gB := grownBy_then0 gB gu
    clear gu he2
    go_wp2
    go_ret
    exact ⟨rfl, gB⟩

end Go.Proofs.Qxb6003414a

/-
  THE WALK OF THE LAW FnShlWordsMultiplies.
-/
import Derived.Test.Qxb6003414aMul
import Derived.Test.Qxb6003414aShl
import Derived.Test.Qxb6003414aLawMul
namespace Go.Proofs.Qxb6003414a
open Go Go.RowKit

/-- A row of n words copied into a row of n + 1 zeros. -/
theorem cp_ext {Z : List Int} {n : Nat} (h : Z.length = n) : Z.take (n + 1) ++ (List.replicate (n + 1) 0).drop n = Z ++ [0] := by
  rw [List.take_of_length_le (by omega), List.drop_replicate]
  congr 1
  simp
theorem ext_cell {w : World} {g n : Nat} {t : TypeId} {Z : List Int} {x : Int} (h : Blk w g t (Z ++ [x])) (hl : Z.length = n) :
    w.cell? ⟨g, n, none⟩ = some (.int .u64 x) ∧ w.frozen? ⟨g, n, none⟩ = false ∧ ∀ y, Blk (w.setCell ⟨g, n, none⟩ (.int .u64 y)) g t (Z ++ [y]) := by
  subst hl
  refine ⟨?_, h.frozen _, fun y => ?_⟩
  · have := h.cell Z.length (by simp)
    rw [this]; simp [List.getD]
  · have := h.set Z.length y
    rw [List.set_append, if_neg (by omega), Nat.sub_self] at this
    exact this
theorem P2_w (s : Nat) (h : s ≤ 63) : W64 (P2 s) := by
  have h1 := P2_le s h; have h2 := P2_pos s
  exact ⟨by omega, by omega⟩
/-- What the shift up gives is the product. -/
theorem shl_prod {X Q : List Int} {n s : Nat} (hX : X.length = n) (hXw : AllW X) (hs : s ≤ 63) (hQl : Q.length = n + 1) (hQw : AllW Q) (hQ : val Q = val X * val [P2 s]) :
    Q = shlL s 0 X ++ [lastOf 0 X / P2 (64 - s)] := by
  have hl : W64 (lastOf 0 X) := by
    by_cases h0 : 0 < X.length
    · rw [lastOf_eq 0 X h0]; exact hXw.getD _
    · rw [List.eq_nil_of_length_eq_zero (by omega : X.length = 0)]; exact W64.zero
  have h1 := shr_lt hl s (by omega)
  have h2 := P2_w s hs
  refine val_inj hQw ((shlL_w s (by omega) W64.zero hXw).snoc ⟨h1.1, by unfold W64 at h2; omega⟩) (by simp [shlL_len]; omega) ?_
  have h3 := shlL_val s (by omega) 0 X
  rw [val_snoc, shlL_len, hQ, val_cons, val_nil]
  rw [Int.zero_ediv, Int.add_zero] at h3
  simp only [Int.mul_zero, Int.add_zero]
  rw [Int.mul_comm (val X), ← h3, Int.mul_comm (pw X.length)]
/-- And the shift down takes it back. -/
theorem shr_back {X : List Int} {n s : Nat} (hX : X.length = n) (hXw : AllW X) (hs : s ≤ 63) :
    shrL s (shlL s 0 X ++ [lastOf 0 X / P2 (64 - s)]) = X ++ [0] := by
  have hl : W64 (lastOf 0 X) := by
    by_cases h0 : 0 < X.length
    · rw [lastOf_eq 0 X h0]; exact hXw.getD _
    · rw [List.eq_nil_of_length_eq_zero (by omega : X.length = 0)]; exact W64.zero
  have h1 := shr_lt hl s (by omega)
  have h2 := P2_w s hs
  refine val_inj (shrL_w s (by omega) ((shlL_w s (by omega) W64.zero hXw).snoc ⟨h1.1, by unfold W64 at h2; omega⟩)) (hXw.snoc W64.zero) (by simp [shrL_len, shlL_len]) ?_
  have h3 := shlL_val s (by omega) 0 X
  rw [Int.zero_ediv, Int.add_zero] at h3
  rw [shrL_div s (by omega), val_snoc, shlL_len, Int.mul_comm (pw X.length), h3, val_snoc, Int.mul_zero, Int.add_zero, Int.mul_ediv_cancel_left _ (by have := P2_pos s; omega)]

set_option maxHeartbeats 1000000 in
theorem lawShl_small (a0 : Option Addr) (n c0 : Nat) (X : List Int) (s : Nat) (w : World) (hin0 : In w a0 X) (hl0 : X.length = n) (hw0 : AllW X) (h0 : n ≤ 64) (hs : s ≤ 63) :
    Calls Try.prog 6 #[.slice a0 n c0, .int .u64 s] w fun e w' => e = .returned (.bool true) ∧ w.grownBy w' none := by
  have HXl : Hid (X.length = n) := hl0
  have d0 : decide ((64 : Int) < (n : Int)) = false := decide_eq_false (by omega)
  have d1 : decide ((64 : Int) ≤ (s : Int)) = false := decide_eq_false (by omega)
  obtain ⟨out, hout⟩ : ∃ out, out = lastOf 0 X / P2 (64 - s) := ⟨_, rfl⟩
  obtain ⟨Z, hZ⟩ : ∃ Z, Z = shlL s 0 X := ⟨_, rfl⟩
  have HZl : Hid (Z.length = n) := (show _ = _ by rw [hZ, shlL_len, hl0])
  have Hout : Hid (out = lastOf 0 X / P2 (64 - s)) := hout
  have HZ : Hid (Z = shlL s 0 X) := hZ
  have Hw : Hid (IntKind.u64.wrap (2 ^ s) = P2 s) := by
    have h2 := P2_w s hs
    show _ = _
    rw [IntKind.wrap_u64]
    show P2 s % _ = P2 s
    unfold W64 at h2
    omega
  clear hl0 hout hZ
  go_enter Try.func6, Try.ntmps6
  go_wp2_with fail
  refine (bytes21 _ _ _ _ _ (by omega)).mono ?_
  rintro e w' ⟨rfl, hw⟩
  rw [hw]
  clear hw w'
  go_wp2_with fail
  refine (clone_in a0 n c0 X _ hin0 HXl.out (by omega)).mono ?_
  rintro e wa ⟨b0, rfl, hX, ga⟩
  have HX : Hid (∀ g o, b0 = some ⟨g, o, none⟩ → w.heap.size ≤ g ∧ g < wa.heap.size) := hX.lt
  have sa := ga.size
  have gB := ga
  clear hin0 ga
  go_wp2_with (at_make; refine wpList_mk rfl _ _ 22 rfl 25 Try.underlying22 info25 _ n rfl rfl rfl (by omega) ?_; intro wb hz gb)
  have sb := gb.size
  have lz := hz.lt
  replace hX := hX.grown0 gb
  refine (zzshl_any wa.heap.size n n b0 n _ X s _ hz (by simp) hX.inn HXl.out hw0 hs (by omega)).mono ?_
  rintro e wc ⟨rfl, hz2, gc⟩
  rw [← HZ.out] at hz2
  rw [← Hout.out]
  have sc := gc.size
  replace hX := hX.grown gc (fun g e => by have := HX.out g 0 e; omega)
  replace gB := grownBy_then (grownBy_then0 gB gb) gc (by omega)
  clear hz gb gc
  go_wp2_with (at_make; refine wpList_mk rfl _ _ 22 rfl 25 Try.underlying22 info25 _ (n + 1) rfl rfl rfl (by omega) ?_; intro wd hp gd)
  rw [Hw.out]
  obtain ⟨hO, gO, eO⟩ := blk_lit wd (P2 s) 25
  have sd := gd.size
  have lp := hp.lt
  replace hX := (hX.grown0 gd).grown0 gO
  replace hz2 := (hz2.grown0 gd).grown0 gO
  replace hp := hp.grown0 gO
  replace gB := grownBy_then0 (grownBy_then0 gB gd) gO
  have lO := hO.lt
  rw [eO] at lO
  clear gd gO
  refine (zzmul_any wc.heap.size (n + 1) (n + 1) b0 n n _ 1 1 X [P2 s] _ hp rfl hX.inn HXl.out hw0 hO.inn rfl (AllW.cons (P2_w s hs) AllW.nil) (by omega)).mono ?_
  rintro e we ⟨rfl, Q, hQl, hQw, hQv, hQ2, ge⟩
  have se := ge.size
  rw [eO] at se
  replace hX := hX.grown ge (fun g e => by have := HX.out g 0 e; omega)
  replace hz2 := hz2.grown' ge (by omega)
  replace gB := grownBy_then gB ge (by omega)
  have hQe := shl_prod HXl.out hw0 hs hQl hQw hQv
  rw [← HZ.out, ← Hout.out] at hQe
  have hE : eqB Z (Q.take n) = true := eqB_true (by rw [hQe, List.take_append_of_le_length (by rw [HZl.out]; omega), List.take_of_length_le (by rw [HZl.out]; omega)])
  have hQn : Q.getD n 0 = out := by rw [hQe]; simp [List.getD, ← HZl.out]
  have hc := hQ2.cell n (by omega)
  rw [hQn] at hc
  have HQt : Hid ((Q.take n).length = n) := (show _ = _ by simp; omega)
  clear hO ge hp eO hQv hQe hQn hQl
  go_wp2_with fail
  refine (eq_in _ _ _ _ _ _ Z (Q.take n) _ hz2.inn HZl.out (hQ2.inn.take n) HQt.out (by omega)).mono ?_
  rintro e wf ⟨rfl, gf⟩
  rw [hE]
  have sf := gf.size
  have hc2 : wf.cell? ⟨wc.heap.size, n, none⟩ = some (.int .u64 out) := gf.cell hc (by simp)
  replace hX := hX.grown0 gf
  replace hz2 := hz2.grown0 gf
  replace gB := grownBy_then0 gB gf
  have hne : (out != out) = false := by simp
  clear gf hc hQ2 hE HQt
  go_wp2_with (at_make; refine wpList_mk rfl _ _ 22 rfl 25 Try.underlying22 info25 _ (n + 1) rfl rfl rfl (by omega) ?_; intro wg hk gg; obtain ⟨wh, hr, hk2, gh⟩ := run_cp (P := Try.prog) 22 22 3 25 Try.underlying22 size25 wf.heap.size (some ⟨wa.heap.size, 0, none⟩) (n + 1) (n + 1) n n 25 _ hk (List.length_replicate) _ Z (hz2.grown0 gg).inn.2 HZl.out; rw [cp_ext HZl.out] at hk2; obtain ⟨hkc, hkf, hkb⟩ := ext_cell hk2 HZl.out; replace hkb := hkb out)
  have sg := gg.size
  have sh := gh.size
  have lk := hk.lt
  replace hX := ((hX.grown0 gg).grown gh (fun g e => by have := HX.out g 0 e; omega)).grown (grownBy_set (i := n) (v := .int .u64 out) (grownBy_refl wh (some wf.heap.size))) (fun g e => by have := HX.out g 0 e; omega)
  replace gB := grownBy_then (grownBy_then (grownBy_then0 gB gg) gh (by omega)) (grownBy_set (i := n) (v := .int .u64 out) (grownBy_refl wh (some wf.heap.size))) (by omega)
  clear hz2 hk gg hr hk2 gh hkc hkf
  have hwl : AllW (Z ++ [out]) := by
    have hl : W64 (lastOf 0 X) := by
      by_cases h0 : 0 < X.length
      · rw [lastOf_eq 0 X h0]; exact hw0.getD _
      · rw [List.eq_nil_of_length_eq_zero (by omega : X.length = 0)]; exact W64.zero
    have h1 := shr_lt hl s (by omega)
    have h2 := P2_w s hs
    rw [HZ.out, Hout.out]
    exact (shlL_w s (by omega) W64.zero hw0).snoc ⟨h1.1, by unfold W64 at h2; omega⟩
  have hback : shrL s (Z ++ [out]) = X ++ [0] := by rw [HZ.out, Hout.out]; exact shr_back HXl.out hw0 hs
  refine (zzshr_any wf.heap.size (n + 1) (n + 1) (Z ++ [out]) s _ hkb (by simp [HZl.out]) hwl hs (by omega)).mono ?_
  rintro e wi ⟨rfl, hk3, gi⟩
  rw [hback] at hk3
  have si := gi.size
  replace hX := hX.grown gi (fun g e => by have := HX.out g 0 e; omega)
  replace gB := grownBy_then gB gi (by omega)
  obtain ⟨hkc, _, _⟩ := ext_cell hk3 HXl.out
  have hE : eqB ((X ++ [0]).take n) X = true := eqB_true (by rw [List.take_append_of_le_length (by rw [HXl.out]; omega), List.take_of_length_le (by rw [HXl.out]; omega)])
  have HXt : Hid (((X ++ [0]).take n).length = n) := (show _ = _ by have := HXl.out; simp; omega)
  clear hwl hback gi hkb
  go_wp2_with fail
  refine (eq_in _ _ _ _ _ _ ((X ++ [0]).take n) X _ (hk3.inn.take n) HXt.out hX.inn HXl.out (by omega)).mono ?_
  rintro e wj ⟨rfl, gj⟩
  rw [hE]
  have hc3 : wj.cell? ⟨wf.heap.size, n, none⟩ = some (.int .u64 0) := gj.cell hkc (by simp)
  replace gB := grownBy_then0 gB gj
  clear gj hkc hk3 hX hE
  go_wp2
  go_ret
  exact ⟨rfl, gB⟩

theorem lawShl_big (a0 : Option Addr) (n c0 : Nat) (s : Int) (w : World) (h : 64 < n ∨ 64 ≤ s) :
    Calls Try.prog 6 #[.slice a0 n c0, .int .u64 s] w fun e w' => e = .returned (.bool true) ∧ w.grownBy w' none := by
  by_cases h0 : 64 < n
  · clear h
    have d0 : decide ((64 : Int) < (n : Int)) = true := decide_eq_true (by omega)
    go_enter Try.func6, Try.ntmps6
    go_wp2
    all_goals (go_ret; exact ⟨rfl, grownBy_refl _ _⟩)
  · have h1 : 64 ≤ s := by omega
    have d0 : decide ((64 : Int) < (n : Int)) = false := decide_eq_false (by omega)
    have d1 : decide ((64 : Int) ≤ s) = true := decide_eq_true h1
    clear h
    go_enter Try.func6, Try.ntmps6
    go_wp2
    all_goals (go_ret; exact ⟨rfl, grownBy_refl _ _⟩)
end Go.Proofs.Qxb6003414a

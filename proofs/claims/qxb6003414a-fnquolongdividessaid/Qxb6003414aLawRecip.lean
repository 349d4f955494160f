/-
  THE WALK OF THE LAW FnReciprocalQuoDivides.
-/
import Derived.Test.Qxb6003414aRecipZZ
import Derived.Test.Qxb6003414aAddZZ
import Derived.Test.Qxb6003414aLawShl
namespace Go.Proofs.Qxb6003414a
open Go Go.RowKit

theorem blk_lit2 (w : World) (x y : Int) (t : TypeId) : Blk (w.alloc (.cells #[.int .u64 x, .int .u64 y] t)) w.heap.size t [x, y] ∧ w.grownBy (w.alloc (.cells #[.int .u64 x, .int .u64 y] t)) none ∧ (w.alloc (.cells #[.int .u64 x, .int .u64 y] t)).heap.size = w.heap.size + 1 :=
  ⟨heap_alloc_new w _, World.grownBy_alloc w _ none, by simp⟩
theorem pw2 : pw 2 = 340282366920938463463374607431768211456 := by decide
theorem pw3 : pw 3 = 6277101735386680763835789423207666416102355444464034512896 := by decide
theorem val1 (x : Int) : val [x] = x := by rw [val_cons, val_nil]; simp
theorem val2 (x y : Int) : val [x, y] = x + 18446744073709551616 * y := by rw [val_cons, val1, B_eq]
theorem val3 (x y z : Int) : val [x, y, z] = x + 18446744073709551616 * y + 340282366920938463463374607431768211456 * z := by rw [val_cons, val2, B_eq]; omega

/-- A number of three words below 2^128 has no third word. -/
theorem three_low {L : List Int} (hl : L.length = 3) (hw : AllW L) (h : val L < 340282366920938463463374607431768211456) : L.getD 2 0 = 0 := by
  obtain ⟨x, y, z, rfl⟩ : ∃ x y z, L = [x, y, z] := by
    match L, hl with
    | [x, y, z], _ => exact ⟨x, y, z, rfl⟩
  rw [val3] at h
  have h1 := hw x (by simp); have h2 := hw y (by simp); have h3 := hw z (by simp)
  unfold W64 at h1 h2 h3
  show z = 0
  omega
theorem three_high {L : List Int} (hl : L.length = 3) (hw : AllW L) (h : 340282366920938463463374607431768211456 ≤ val L) : L.getD 2 0 ≠ 0 := by
  obtain ⟨x, y, z, rfl⟩ : ∃ x y z, L = [x, y, z] := by
    match L, hl with
    | [x, y, z], _ => exact ⟨x, y, z, rfl⟩
  rw [val3] at h
  have h1 := hw x (by simp); have h2 := hw y (by simp); have h3 := hw z (by simp)
  unfold W64 at h1 h2 h3
  show z ≠ 0
  omega
theorem two_words {L : List Int} {x y c : Int} (hl : L.length = 2) (hw : AllW L) (hx : W64 x) (hy : W64 y) (hc0 : 0 ≤ c) (hc1 : c ≤ 1) (h : val L + c * pw 2 = y * 18446744073709551616 + x) : c = 0 ∧ L.getD 0 0 = x ∧ L.getD 1 0 = y := by
  obtain ⟨a, b, rfl⟩ : ∃ a b, L = [a, b] := by
    match L, hl with
    | [a, b], _ => exact ⟨a, b, rfl⟩
  rw [val2, pw2] at h
  have h1 := hw a (by simp); have h2 := hw b (by simp)
  unfold W64 at h1 h2 hx hy
  refine ⟨by omega, ?_, ?_⟩
  · show a = x; omega
  · show b = y; omega

set_option maxHeartbeats 2000000 in
theorem lawRecip_main (d u1 u0 : Int) (w : World) (h : W64 d) (h0 : d ≠ 0) (h1 : 0 ≤ u1) (h2 : u1 < normOf d) (h3 : W64 u0) :
    Calls Try.prog 7 #[.int .u64 d, .int .u64 u1, .int .u64 u0] w fun e w' => e = .returned (.bool true) ∧ w.grownBy w' none := by
  have R := recip_d h h0
  have g0 : (d == 0) = false := by rw [beq_eq_false_iff_ne]; exact h0
  have hlo := R.lo
  have hhi := R.hi
  have hnw : W64 (normOf d) := ⟨by omega, hhi⟩
  have hvw : W64 (recOf d) := ⟨R.v0, R.v1⟩
  have gu : decide (normOf d ≤ u1) = false := decide_eq_false (by omega)
  have hU0 : 0 ≤ u1 * 18446744073709551616 + u0 := by have := h3.1; omega
  obtain ⟨q, hq⟩ : ∃ q, q = (u1 * 18446744073709551616 + u0) / normOf d := ⟨_, rfl⟩
  obtain ⟨rm, hrm⟩ : ∃ rm, rm = (u1 * 18446744073709551616 + u0) % normOf d := ⟨_, rfl⟩
  have HU : Hid (q * normOf d + rm = u1 * 18446744073709551616 + u0) := by
    have e := Int.emod_add_mul_ediv (u1 * 18446744073709551616 + u0) (normOf d)
    rw [← hq, ← hrm] at e
    show _ = _
    rw [Int.mul_comm]; omega
  have rm0 : 0 ≤ rm := by rw [hrm]; exact Int.emod_nonneg _ (by omega)
  have rm1 : rm < normOf d := by rw [hrm]; exact Int.emod_lt_of_pos _ (by omega)
  have q0 : 0 ≤ q := by rw [hq]; exact Int.ediv_nonneg hU0 (by omega)
  have q1 : q < 18446744073709551616 := by
    rw [hq]
    refine Int.ediv_lt_of_lt_mul (by omega) ?_
    have := h3.2
    omega
  have hqw : W64 q := ⟨q0, q1⟩
  have hrw : W64 rm := ⟨rm0, by omega⟩
  have c26 : ∀ w, Calls Try.prog 26 #[.int .u64 d, .int .u64 u1, .int .u64 u0] w fun e w' => e = .returned (.tuple #[.int .u64 q, .int .u64 rm]) ∧ w.grownBy w' none := by
    intro w
    rw [hq, hrm]
    exact zzquo_any d u1 u0 w h h0 h1 h2 h3
  have c24 := fun w => normShift_any d w h h0
  have c25 := fun w => zzrecip_any d w h h0
  clear hq hrm hU0
  generalize normOf d = n at *
  generalize recOf d = v at *
  generalize lzs d = s at *
  have C24 : Hid _ := c24
  have C25 : Hid _ := c25
  have C26 : Hid _ := c26
  clear c24 c25 c26
  have gn : (n != n) = false := by simp
  have gs : ((s : Int) != (s : Int)) = false := by simp
  have gr : decide (n ≤ rm) = false := decide_eq_false (by omega)
  go_enter Try.func7, Try.ntmps7
  go_wp2_with fail
  refine (C24.out _).mono ?_
  rintro e w' ⟨rfl, hw⟩
  rw [hw]
  clear hw w'
  go_wp2_with fail
  refine (C25.out _).mono ?_
  rintro e wa ⟨rfl, ga⟩
  have sa := ga.size
  have gB := ga
  clear ga C24 C25
  go_wp2_with (at_make; refine wpList_mk rfl _ _ 22 rfl 25 Try.underlying22 info25 _ 3 rfl rfl rfl (by omega) ?_; intro wb hp gb)
  obtain ⟨hA, gA, eA⟩ := blk_lit2 wb v 1 25
  obtain ⟨hN, gN, eN⟩ := blk_lit (wb.alloc (Obj.cells #[Value.int IntKind.u64 v, Value.int IntKind.u64 1] 25)) n 25
  rw [eA] at hN eN
  have sb := gb.size
  have lp := hp.lt
  replace hA := hA.grown0 gN
  replace hp := (hp.grown0 gA).grown0 gN
  replace gB := grownBy_then0 (grownBy_then0 (grownBy_then0 gB gb) gA) gN
  have lA := hA.lt
  have lN := hN.lt
  rw [eN] at lA lN
  clear gb gA gN eA
  have hw2 : AllW [v, 1] := AllW.cons hvw (AllW.cons ⟨by omega, by omega⟩ AllW.nil)
  have hw1 : AllW [n] := AllW.cons hnw AllW.nil
  refine (zzmul_any wa.heap.size 3 3 _ 2 2 _ 1 1 [v, 1] [n] _ hp rfl hA.inn rfl hw2 hN.inn rfl hw1 (by omega)).mono ?_
  rintro e wc ⟨rfl, P, hPl, hPw, hPv, hP, gc⟩
  have sc := gc.size
  rw [eN] at sc
  replace gB := grownBy_then gB gc (by omega)
  have HPv : Hid (val P = (18446744073709551616 + v) * n) := (show _ = _ by rw [hPv, val2, val1]; congr 1; omega)
  have hP2 := three_low hPl hPw (by rw [HPv.out]; have := R.le; omega)
  have hc := hP.cell 2 (by omega)
  rw [hP2] at hc
  have HPl : Hid (P.length = 3) := hPl
  clear gc hp hA hN eN hPl hPv hP2 hw2
  go_wp2_with (at_make; refine wpList_mk rfl _ _ 22 rfl 25 Try.underlying22 info25 _ 3 rfl rfl rfl (by omega) ?_; intro wd hk gd)
  clear hc
  obtain ⟨hN, gN, eN⟩ := blk_lit wd n 25
  have sd := gd.size
  have lk := hk.lt
  replace hP := (hP.grown0 gd).grown0 gN
  replace hk := hk.grown0 gN
  replace gB := grownBy_then0 (grownBy_then0 gB gd) gN
  have lN := hN.lt
  rw [eN] at lN
  clear gd gN
  refine (zzadd_any wc.heap.size 3 3 _ 3 _ 1 1 _ P [n] _ hk rfl hP.inn HPl.out hPw hN.inn rfl hw1 (by omega) (by omega)).mono ?_
  rintro e we ⟨S, c, rfl, hc0, hc1, hSl, hSw, hSv, hS, ge⟩
  have se := ge.size
  rw [eN] at se
  replace gB := grownBy_then gB ge (by omega)
  have hSv2 : val S + c * pw 3 = (18446744073709551616 + v + 1) * n := by
    rw [hSv, HPv.out, val1, Int.add_mul (18446744073709551616 + v) 1 n, Int.one_mul]
  have hle := R.le
  have hlt := R.lt
  have hcz : c = 0 := by
    have h9 := val_nonneg hSw
    rw [pw3] at hSv2
    rw [Int.add_mul (18446744073709551616 + v) 1 n, Int.one_mul] at hSv2
    omega
  subst hcz
  have hS2 := three_high hSl hSw (by rw [Int.zero_mul, Int.add_zero] at hSv2; omega)
  have hc := hS.cell 2 (by omega)
  obtain ⟨t, ht⟩ : ∃ t, t = S.getD 2 0 := ⟨_, rfl⟩
  rw [← ht] at hc hS2
  have ht0 : (t == 0) = false := by rw [beq_eq_false_iff_ne]; exact hS2
  clear ge hk hP hN eN hSl hSw hSv hSv2 hS hS2 ht hle hlt hPw HPv HPl R hc0 hc1
  go_wp2_with fail
  refine (C26.out _).mono ?_
  rintro e wf ⟨rfl, gf⟩
  have sf := gf.size
  replace gB := grownBy_then0 gB gf
  clear gf C26 hc ht0
  go_wp2_with (at_make; refine wpList_mk rfl _ _ 22 rfl 25 Try.underlying22 info25 _ 2 rfl rfl rfl (by omega) ?_; intro wg hp gg)
  obtain ⟨hA, gA, eA⟩ := blk_lit wg q 25
  obtain ⟨hN, gN, eN⟩ := blk_lit (wg.alloc (Obj.cells #[Value.int IntKind.u64 q] 25)) n 25
  rw [eA] at hN eN
  have sg := gg.size
  have lp := hp.lt
  replace hA := hA.grown0 gN
  replace hp := (hp.grown0 gA).grown0 gN
  replace gB := grownBy_then0 (grownBy_then0 (grownBy_then0 gB gg) gA) gN
  have lA := hA.lt
  have lN := hN.lt
  rw [eN] at lA lN
  clear gg gA gN eA
  refine (zzmul_any wf.heap.size 2 2 _ 1 1 _ 1 1 [q] [n] _ hp rfl hA.inn rfl (AllW.cons hqw AllW.nil) hN.inn rfl hw1 (by omega)).mono ?_
  rintro e wh ⟨rfl, P, hPl, hPw, hPv, hP, gh⟩
  have sh := gh.size
  rw [eN] at sh
  replace gB := grownBy_then gB gh (by omega)
  have HPv : Hid (val P = q * n) := (show _ = _ by rw [hPv, val1, val1])
  have HPl : Hid (P.length = 2) := hPl
  clear gh hp hA hN eN hPl hPv
  go_wp2_with (at_make; refine wpList_mk rfl _ _ 22 rfl 25 Try.underlying22 info25 _ 2 rfl rfl rfl (by omega) ?_; intro wi hk gi)
  obtain ⟨hN, gN, eN⟩ := blk_lit wi rm 25
  have si := gi.size
  have lk := hk.lt
  replace hP := (hP.grown0 gi).grown0 gN
  replace hk := hk.grown0 gN
  replace gB := grownBy_then0 (grownBy_then0 gB gi) gN
  have lN := hN.lt
  rw [eN] at lN
  clear gi gN
  refine (zzadd_any wh.heap.size 2 2 _ 2 _ 1 1 _ P [rm] _ hk rfl hP.inn HPl.out hPw hN.inn rfl (AllW.cons hrw AllW.nil) (by omega) (by omega)).mono ?_
  rintro e wj ⟨S, c, rfl, hc0, hc1, hSl, hSw, hSv, hS, gj⟩
  have sj := gj.size
  rw [eN] at sj
  replace gB := grownBy_then gB gj (by omega)
  obtain ⟨hcz, e0, e1⟩ := two_words hSl hSw h3 ⟨h1, by omega⟩ hc0 hc1 (by rw [hSv, HPv.out, val1]; exact HU.out)
  subst hcz
  have k0 := hS.cell 0 (by omega)
  have k1 := hS.cell 1 (by omega)
  rw [e0] at k0
  rw [e1] at k1
  have gz0 : (u0 == u0) = true := by simp
  have gz1 : (u1 == u1) = true := by simp
  clear gj hk hP hN eN hSl hSw hSv hS e0 e1 HPv HPl hPw HU hc0 hc1
  go_wp2
  go_ret
  exact ⟨rfl, gB⟩

theorem lawRecip_zero (u1 u0 : Int) (w : World) :
    Calls Try.prog 7 #[.int .u64 0, .int .u64 u1, .int .u64 u0] w fun e w' => e = .returned (.bool true) ∧ w.grownBy w' none := by
  go_enter Try.func7, Try.ntmps7
  go_wp2
  go_ret
  exact ⟨rfl, grownBy_refl _ _⟩
theorem lawRecip_big (d u1 u0 : Int) (w : World) (h : W64 d) (h0 : d ≠ 0) (h2 : normOf d ≤ u1) :
    Calls Try.prog 7 #[.int .u64 d, .int .u64 u1, .int .u64 u0] w fun e w' => e = .returned (.bool true) ∧ w.grownBy w' none := by
  have g0 : (d == 0) = false := by rw [beq_eq_false_iff_ne]; exact h0
  have gu : decide (normOf d ≤ u1) = true := decide_eq_true h2
  go_enter Try.func7, Try.ntmps7
  go_wp2_with fail
  refine (normShift_any d _ h h0).mono ?_
  rintro e w' ⟨rfl, hw⟩
  rw [hw]
  clear hw w'
  go_wp2
  go_ret
  exact ⟨rfl, grownBy_refl _ _⟩
end Go.Proofs.Qxb6003414a

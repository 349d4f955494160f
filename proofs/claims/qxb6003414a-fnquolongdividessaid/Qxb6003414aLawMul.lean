/-
  THE WALK OF THE LAW FnMulWordsCommutes.
-/
import Derived.Test.Qxb6003414aMul
namespace Go.Proofs.Qxb6003414a
open Go Go.RowKit

theorem eqB_true {L M : List Int} (h : L = M) : eqB L M = true := decide_eq_true h

/-- A row of one word, written out. -/
theorem blk_lit (w : World) (x : Int) (t : TypeId) : Blk (w.alloc (.cells #[.int .u64 x] t)) w.heap.size t [x] ∧ w.grownBy (w.alloc (.cells #[.int .u64 x] t)) none ∧ (w.alloc (.cells #[.int .u64 x] t)).heap.size = w.heap.size + 1 :=
  ⟨heap_alloc_new w _, World.grownBy_alloc w _ none, by simp⟩

/-- x times one. -/
theorem mul_one_eq {X R : List Int} {n : Nat} (hX : X.length = n) (hXw : AllW X) (hR : R.length = n + 1) (hRw : AllW R) (h : val R = val X * val [1]) : R = X ++ [0] := by
  refine val_inj hRw (hXw.snoc W64.zero) (by simp; omega) ?_
  rw [h, val_snoc, val_cons, val_nil]
  simp

set_option maxHeartbeats 1000000 in
theorem lawMul_small (a0 : Option Addr) (n0 c0 : Nat) (a1 : Option Addr) (n1 c1 : Nat) (X Y : List Int) (w : World) (hin0 : In w a0 X) (hl0 : X.length = n0) (hw0 : AllW X) (hin1 : In w a1 Y) (hl1 : Y.length = n1) (hw1 : AllW Y) (h0 : n0 ≤ 64) (h1 : n1 ≤ 64) :
    Calls Try.prog 4 #[.slice a0 n0 c0, .slice a1 n1 c1] w fun e w' => e = .returned (.bool true) ∧ w.grownBy w' none := by
  have HXl : Hid (X.length = n0) := hl0
  have HYl : Hid (Y.length = n1) := hl1
  have d0 : decide ((64 : Int) < (n0 : Int)) = false := decide_eq_false (by omega)
  have d1 : decide ((64 : Int) < (n1 : Int)) = false := decide_eq_false (by omega)
  clear hl0 hl1
  go_enter Try.func4, Try.ntmps4
  go_wp2_with fail
  refine (bytes17 _ _ _ _ _ _ _ (by omega) (by omega)).mono ?_
  rintro e w' ⟨rfl, hw⟩
  rw [hw]
  clear hw w'
  go_wp2_with fail
  refine (clone_in a0 n0 c0 X _ hin0 HXl.out (by omega)).mono ?_
  rintro e wa ⟨b0, rfl, hX, ga⟩
  go_wp2_with fail
  refine (clone_in a1 n1 c1 Y _ (hin1.grown0 ga) HYl.out (by omega)).mono ?_
  rintro e wb ⟨b1, rfl, hY, gb⟩
  clear hin0 hin1
  have HX : Hid (∀ g o, b0 = some ⟨g, o, none⟩ → w.heap.size ≤ g ∧ g < wa.heap.size) := hX.lt
  have HY : Hid (∀ g o, b1 = some ⟨g, o, none⟩ → wa.heap.size ≤ g ∧ g < wb.heap.size) := hY.lt
  have sa := ga.size
  have sb := gb.size
  have gB := grownBy_then0 ga gb
  replace hX := hX.grown0 gb
  clear ga gb
  go_wp2_with (at_make; refine wpList_mk rfl _ _ 22 rfl 25 Try.underlying22 info25 _ (n0 + n1) rfl rfl (by omega) (by omega) ?_; intro wc hP gc)
  have sc := gc.size
  have lP := hP.lt
  refine (zzmul_any wb.heap.size (n0 + n1) (n0 + n1) b0 n0 n0 b1 n1 n1 X Y _ hP rfl ((hX.grown0 gc).inn) HXl.out hw0 ((hY.grown0 gc).inn) HYl.out hw1 (by omega)).mono ?_
  rintro e wd ⟨rfl, P, hPl, hPw, hPv, hP2, gd⟩
  have HPl : Hid (P.length = n0 + n1) := hPl
  have HPv : Hid (val P = val X * val Y) := hPv
  have sd := gd.size
  replace hX := (hX.grown0 gc).grown gd (fun g e => by have := HX.out g 0 e; omega)
  replace hY := (hY.grown0 gc).grown gd (fun g e => by have := HY.out g 0 e; omega)
  replace gB := grownBy_then (grownBy_then0 gB gc) gd (by omega)
  clear hPl hPv hP gc gd
  go_wp2_with (at_make; refine wpList_mk rfl _ _ 22 rfl 25 Try.underlying22 info25 _ (n0 + n1) rfl rfl (by omega) (by omega) ?_; intro we hQ ge)
  have se := ge.size
  have lQ := hQ.lt
  refine (zzmul_any wd.heap.size (n0 + n1) (n0 + n1) b1 n1 n1 b0 n0 n0 Y X _ hQ (by omega) ((hY.grown0 ge).inn) HYl.out hw1 ((hX.grown0 ge).inn) HXl.out hw0 (by omega)).mono ?_
  rintro e wf ⟨rfl, Q, hQl, hQw, hQv, hQ2, gf⟩
  have sf := gf.size
  replace hX := (hX.grown0 ge).grown gf (fun g e => by have := HX.out g 0 e; omega)
  replace hP2 := (hP2.grown0 ge).grown' gf (by omega)
  replace gB := grownBy_then (grownBy_then0 gB ge) gf (by omega)
  have hPQ : eqB P Q = true := eqB_true (val_inj hPw hQw (by rw [HPl.out, hQl]) (by rw [HPv.out, hQv, Int.mul_comm]))
  have HQl : Hid (Q.length = n0 + n1) := hQl
  clear hQl hQv hQ ge gf hY
  go_wp2_with fail
  refine (eq_in _ _ _ _ _ _ P Q _ hP2.inn HPl.out hQ2.inn HQl.out (by omega)).mono ?_
  rintro e wg ⟨rfl, gg⟩
  rw [hPQ]
  have sg := gg.size
  replace hX := hX.grown0 gg
  replace gB := grownBy_then0 gB gg
  clear gg hP2 hQ2 hPw hQw hPQ HPl HQl HPv
  go_wp2_with (at_make; refine wpList_mk rfl _ _ 22 rfl 25 Try.underlying22 info25 _ (n0 + 1) rfl rfl (by omega) (by omega) ?_; intro wh hR gh)
  obtain ⟨hO, gO, eO⟩ := blk_lit wg 1 25
  rw [eO] at hR
  have sh := gh.size
  rw [eO] at sh
  have lR := hR.lt
  replace hX := (hX.grown0 gO).grown0 gh
  replace hO := hO.grown0 gh
  replace gB := grownBy_then0 (grownBy_then0 gB gO) gh
  clear gO gh eO
  refine (zzmul_any (wg.heap.size + 1) (n0 + 1) (n0 + 1) b0 n0 n0 _ 1 1 X [1] _ hR rfl hX.inn HXl.out hw0 hO.inn rfl (AllW.cons ⟨by omega, by omega⟩ AllW.nil) (by omega)).mono ?_
  rintro e wi ⟨rfl, R, hRl, hRw, hRv, hR2, gi⟩
  have si := gi.size
  replace hX := hX.grown gi (fun g e => by have := HX.out g 0 e; omega)
  replace gB := grownBy_then gB gi (by omega)
  have hRe := mul_one_eq HXl.out hw0 hRl hRw hRv
  clear hO gi hR hRl hRv
  have hE : eqB (R.take n0) X = true := eqB_true (by rw [hRe, List.take_append_of_le_length (by rw [HXl.out]; omega), List.take_of_length_le (by rw [HXl.out]; omega)])
  have hR0 : R.getD n0 0 = 0 := by rw [hRe]; simp [List.getD, ← HXl.out]
  have hRl2 : R.length = n0 + 1 := by rw [hRe]; simp [HXl.out]
  have HRt : Hid ((R.take n0).length = n0) := (show _ = _ by simp; omega)
  have hc := hR2.cell n0 (by omega)
  rw [hR0] at hc
  have HR2 : Hid (Blk wi (wg.heap.size + 1) 25 R) := hR2
  clear hRe hR0 hRl2 hR2
  go_wp2_with fail
  refine (eq_in _ _ _ _ _ _ (R.take n0) X _ (HR2.out.inn.take n0) HRt.out hX.inn HXl.out (by omega)).mono ?_
  rintro e wj ⟨rfl, gj⟩
  rw [hE]
  have hc2 : wj.cell? ⟨wg.heap.size + 1, n0, none⟩ = some (.int .u64 0) := gj.cell hc (by simp)
  replace gB := grownBy_then0 gB gj
  clear gj hc HR2 hX
  go_wp2
  go_ret
  exact ⟨rfl, gB⟩

theorem lawMul_big (a0 : Option Addr) (n0 c0 : Nat) (a1 : Option Addr) (n1 c1 : Nat) (w : World) (h : 64 < n0 ∨ 64 < n1) :
    Calls Try.prog 4 #[.slice a0 n0 c0, .slice a1 n1 c1] w fun e w' => e = .returned (.bool true) ∧ w.grownBy w' none := by
  by_cases h0 : 64 < n0
  · clear h
    have d0 : decide ((64 : Int) < (n0 : Int)) = true := decide_eq_true (by omega)
    go_enter Try.func4, Try.ntmps4
    go_wp2
    all_goals (go_ret; exact ⟨rfl, grownBy_refl _ _⟩)
  · have h1 : 64 < n1 := by omega
    have d0 : decide ((64 : Int) < (n0 : Int)) = false := decide_eq_false (by omega)
    have d1 : decide ((64 : Int) < (n1 : Int)) = true := decide_eq_true (by omega)
    clear h
    go_enter Try.func4, Try.ntmps4
    go_wp2
    all_goals (go_ret; exact ⟨rfl, grownBy_refl _ _⟩)
end Go.Proofs.Qxb6003414a

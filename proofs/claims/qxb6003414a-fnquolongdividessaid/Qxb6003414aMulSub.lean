/-
  THE WALKS of mulSubWords and ZZmulSubWords.
-/
import Derived.Test.Qxb6003414aAddZZ
namespace Go.Proofs.Qxb6003414a
open Go Go.RowKit

set_option maxHeartbeats 1000000 in
/-- mulSubWords, at whatever place of the row. -/
theorem mulSub_any (gz oz n cz : Nat) (ax : Option Addr) (cx : Nat) (M X : List Int) (m : Int) (w : World)
    (hz : Blk w gz 43 M) (hM : oz + (n + 1) ≤ M.length) (hMw : AllW M) (hX : Rd w ax gz X) (hXl : X.length = n) (hXw : AllW X) (hm : W64 m) (hb : n ≤ 1048576) :
    Calls Try.prog 37 #[.slice (some ⟨gz, oz, none⟩) (n + 1) cz, .slice ax n cx, .int .u64 m] w fun e w' => ∃ Z b, e = .returned (.int .u64 b) ∧ 0 ≤ b ∧ b ≤ 1 ∧ Z.length = n + 1 ∧ AllW Z ∧ val Z + val X * m = val ((M.drop oz).take (n + 1)) + b * pw (n + 1) ∧ Blk w' gz 43 ((M.take oz ++ Z) ++ M.drop (oz + (n + 1))) ∧ w.grownBy w' (some gz) := by
  have HXl : Hid (X.length = n) := hXl
  clear hXl
  go_enter Try.func37, Try.ntmps37
  go_wp2
  go_loopw [17, 7, 8] (fun t u v wr => ∃ (k : Nat) (cr b : Int) (R : List Int), k ≤ n ∧ t = .int .i64 k ∧ u = .int .u64 cr ∧ v = .int .u64 b ∧ W64 cr ∧ 0 ≤ b ∧ b ≤ 1 ∧ R.length = k ∧ AllW R ∧ Hid (val R + val (X.take k) * m = val ((M.drop oz).take k) + (b + cr) * pw k) ∧ Blk wr gz 43 ((M.take oz ++ R) ++ M.drop (oz + k)) ∧ w.grownBy wr (some gz)) (fun t _ _ _ => n - (intOf t).toNat)
  case atStart => exact ⟨0, 0, 0, [], Nat.zero_le _, rfl, rfl, rfl, W64.zero, by omega, by omega, rfl, AllW.nil, (show _ = _ by simp [val_nil]), by simpa using hz, grownBy_refl _ _⟩
  case round =>
    obtain ⟨k, cr, b, R, hk, rfl, rfl, rfl, hcr, hb0, hb1, hRl, hRw, HR, hbk, hg⟩ := hrel
    obtain ⟨u, hu⟩ : ∃ u, u = M.getD (oz + k) 0 := ⟨_, rfl⟩
    have huw : W64 u := by rw [hu]; exact hMw.getD _
    have hf := hbk.frozen (oz + k)
    have hcu : wr.cell? ⟨gz, oz + k, none⟩ = some (.int .u64 u) := by
      have := hbk.cell (oz + k) (by rw [row_len M R oz k (by omega) hRl]; omega)
      rw [row_getD M R oz k (by omega) hRl, ← hu] at this
      exact this
    by_cases hlt : k < n
    · obtain ⟨g, o, he, _, hcx⟩ := hX.grown hg k (by rw [HXl.out]; omega)
      subst he
      obtain ⟨x, hx⟩ : ∃ x, x = X.getD k 0 := ⟨_, rfl⟩
      rw [← hx] at hcx
      have hxw : W64 x := by rw [hx]; exact hXw.getD k
      obtain ⟨l1, l2, ⟨p1, p2⟩, q1, l3, q2, q3, hd⟩ := mulsub_digit hxw hm huw hcr hb0 hb1
      have Hd : Hid (val (R ++ [subLo u (addLo (mulLo x m) cr 0) b]) + val (X.take (k + 1)) * m = val ((M.drop oz).take (k + 1)) + (subHi u (addLo (mulLo x m) cr 0) b + (mulHi x m + addHi (mulLo x m) cr 0)) * pw (k + 1)) :=
        mulsub_step hRl HR.out (by rw [← hx, hd, hu, getD_drop])
      have hb2 := hbk.set (oz + k) (subLo u (addLo (mulLo x m) cr 0) b)
      rw [row_set M R oz k _ (by omega) hRl] at hb2
      have hg2 : w.grownBy (wr.setCell ⟨gz, oz + k, none⟩ (.int .u64 (subLo u (addLo (mulLo x m) cr 0) b))) (some gz) := grownBy_set hg
      have HRl : Hid ((R ++ [subLo u (addLo (mulLo x m) cr 0) b]).length = k + 1) := (show _ = _ by simp [hRl])
      have hRw2 := hRw.snoc l3
      clear hd hx hu hbk HR hX hRw hRl hz hg
      go_wp2_with (first | (go_at_call 46; refine (mul_any _ _ hxw hm _).mono ?_; rintro e w' ⟨rfl, rfl⟩) | (go_at_call 44; refine (add_any _ _ _ l1 hcr (Int.le_refl 0) (by decide) _).mono ?_; rintro e w' ⟨rfl, rfl⟩) | (go_at_call 45; refine (sub_any _ _ _ huw l2 hb0 hb1 _).mono ?_; rintro e w' ⟨rfl, rfl⟩))
      go_roundw
      case rel => exact ⟨k + 1, _, _, _, by omega, by go_num, rfl, rfl, ⟨by omega, by omega⟩, q2, q3, HRl.out, hRw2, Hd, hb2, hg2⟩
      case measure => simp [intOf]; omega
    · obtain rfl : k = n := by omega
      obtain ⟨f1, f2, f3, f4⟩ := sub_facts huw hcr hb0 hb1
      have Hv : Hid (val (R ++ [subLo u cr b]) + val X * m = val ((M.drop oz).take (k + 1)) + subHi u cr b * pw (k + 1)) := by
        have h := mulsub_top (d := subLo u cr b) (b' := subHi u cr b) hRl HR.out (by rw [f4, hu, getD_drop])
        rw [List.take_of_length_le (l := X) (by rw [HXl.out]; omega)] at h
        exact h
      have hb2 := hbk.set (oz + k) (subLo u cr b)
      rw [row_set M R oz k _ (by omega) hRl] at hb2
      have hg2 : w.grownBy (wr.setCell ⟨gz, oz + k, none⟩ (.int .u64 (subLo u cr b))) (some gz) := grownBy_set hg
      have HRl : Hid ((R ++ [subLo u cr b]).length = k + 1) := (show _ = _ by simp [hRl])
      have hRw2 := hRw.snoc f1
      have hd : decide ((k : Int) < (k : Int)) = false := by simp
      clear f4 hu hbk HR hX hRw hRl hz hg hlt hk
      go_wp2_with (go_at_call 45; refine (sub_any _ _ _ huw hcr hb0 hb1 _).mono ?_; rintro e w' ⟨rfl, rfl⟩)
      go_ret
      exact ⟨_, _, rfl, f2, f3, HRl.out, hRw2, Hv.out, hb2, hg2⟩

set_option maxHeartbeats 400000 in
/-- ZZmulSubWords. -/
theorem zzmulSub_any (gz n cz : Nat) (ax : Option Addr) (cx : Nat) (M X : List Int) (m : Int) (w : World)
    (hz : Blk w gz 25 M) (hM : M.length = n + 1) (hMw : AllW M) (hX : In w ax X) (hXl : X.length = n) (hXw : AllW X) (hm : W64 m) (hb : n ≤ 1048575) :
    Calls Try.prog 20 #[.slice (some ⟨gz, 0, none⟩) (n + 1) cz, .slice ax n cx, .int .u64 m] w fun e w' => ∃ Z b, e = .returned (.int .u64 b) ∧ 0 ≤ b ∧ b ≤ 1 ∧ Z.length = n + 1 ∧ AllW Z ∧ val Z + val X * m = val M + b * pw (n + 1) ∧ Blk w' gz 25 Z ∧ w.grownBy w' (some gz) := by
  have HXl : Hid (X.length = n) := hXl
  have HM : Hid (M.length = n + 1) := hM
  clear hXl hM
  have hzl := hz.lt
  go_enter Try.func20, Try.ntmps20
  go_wp2_with fail
  refine (toWords_blk gz (n + 1) cz 25 M _ hz HM.out (by omega)).mono ?_
  rintro e w1 ⟨g, rfl, hg, hbg, hg1⟩
  go_wp2_with fail
  refine (toWords_in ax n cx X _ (hX.grown0 hg1) HXl.out (by omega)).mono ?_
  rintro e w2 ⟨a2, rfl, hO2, hg2⟩
  go_wp2_with fail
  have l1 := hbg.lt
  have s2 := hg2.size
  have s1 := hg1.size
  refine (mulSub_any g 0 n (n + 1) a2 n M X m _ (hbg.grown0 hg2) (by rw [HM.out]; omega) hMw (hO2.rd (fun b o e => by have := hO2.lt b o e; omega)) HXl.out hXw hm (by omega)).mono ?_
  rintro e w3 ⟨Z, b, rfl, hc0, hc1, hZl, hZw, hv, hbZ, hg3⟩
  rw [whole_row M Z (n + 1) HM.out] at hbZ
  rw [List.drop_zero, List.take_of_length_le (by rw [HM.out]; omega)] at hv
  have HZl : Hid (Z.length = n + 1) := hZl
  have Hv : Hid (val Z + val X * m = val M + b * pw (n + 1)) := hv
  clear hZl hv
  go_wp2_with fail
  refine (store_any gz (n + 1) cz (some ⟨g, 0, none⟩) (n + 1) M Z _ (((hz.grown0 hg1).grown0 hg2).grown' hg3 (by omega)) HM.out (Rd.of_blk hbZ (by omega)) HZl.out (by omega)).mono ?_
  rintro e w4 ⟨rfl, hb4, hg4⟩
  go_wp2
  go_ret
  exact ⟨Z, b, rfl, hc0, hc1, HZl.out, hZw, Hv.out, hb4, grownBy_trans (grownBy_weak (grownBy_then (grownBy_then0 hg1 hg2) hg3 (by omega))) hg4⟩
end Go.Proofs.Qxb6003414a

/-
  THE WALK of mulWords and ZZmulWords.
-/
import Derived.Test.Qxb6003414aHelp
import Derived.Test.Qxb6003414aBits
import Derived.Test.Qxb6003414aMulNum
namespace Go.Proofs.Qxb6003414a
open Go Go.RowKit

/-- The row in the inner loop's round j: the new words R laid from place i on. -/
theorem row_getD (Z R : List Int) (i j : Nat) (hi : i + j ≤ Z.length) (hR : R.length = j) : ((Z.take i ++ R) ++ Z.drop (i + j)).getD (i + j) 0 = Z.getD (i + j) 0 := by
  have h1 : (Z.take i ++ R).length = i + j := by simp; omega
  simp only [List.getD]
  rw [List.getElem?_append_right (by omega), h1, Nat.sub_self, List.getElem?_drop, Nat.add_zero]
theorem row_set (Z R : List Int) (i j : Nat) (v : Int) (hi : i + j < Z.length) (hR : R.length = j) : ((Z.take i ++ R) ++ Z.drop (i + j)).set (i + j) v = (Z.take i ++ (R ++ [v])) ++ Z.drop (i + (j + 1)) := by
  have h1 : (Z.take i ++ R).length = i + j := by simp; omega
  rw [List.set_append, if_neg (by omega), h1, Nat.sub_self, List.drop_eq_getElem_cons hi, List.set_cons_zero]
  simp [Nat.add_assoc]
theorem row_len (Z R : List Int) (i j : Nat) (hi : i + j ≤ Z.length) (hR : R.length = j) : ((Z.take i ++ R) ++ Z.drop (i + j)).length = Z.length := by simp; omega
theorem getD_drop (Z : List Int) (i j : Nat) : (Z.drop i).getD j 0 = Z.getD (i + j) 0 := by simp [List.getD]

set_option maxHeartbeats 1000000 in
/-- mulWords. -/
theorem mulWords_any (gz n cz : Nat) (ax : Option Addr) (lx cx : Nat) (ay : Option Addr) (ly cy : Nat) (X Y : List Int) (w : World)
    (hz : Blk w gz 43 (List.replicate n 0)) (hn : n = lx + ly) (hcz : n ≤ cz) (hX : Rd w ax gz X) (hXl : X.length = lx) (hXw : AllW X) (hY : Rd w ay gz Y) (hYl : Y.length = ly) (hYw : AllW Y) (hb : n ≤ 1048576) :
    Calls Try.prog 36 #[.slice (some ⟨gz, 0, none⟩) n cz, .slice ax lx cx, .slice ay ly cy] w fun e w' => e = .returned (.tuple #[]) ∧ ∃ Z, Z.length = n ∧ AllW Z ∧ val Z = val X * val Y ∧ Blk w' gz 43 Z ∧ w.grownBy w' (some gz) := by
  have Hn : Hid (n = lx + ly) := hn
  have hn1 : lx + ly ≤ n := by omega
  clear hn
  go_enter Try.func36, Try.ntmps36
  go_wp2
  go_loopw [17] (fun t wr => ∃ (i : Nat) (Z : List Int), i ≤ lx ∧ t = .int .i64 i ∧ Z.length = n ∧ AllW Z ∧ Hid (val (Z.take (i + ly)) = val (X.take i) * val Y) ∧ Blk wr gz 43 Z ∧ w.grownBy wr (some gz)) (fun t _ => lx - (intOf t).toNat)
  case atStart => exact ⟨0, _, Nat.zero_le _, rfl, by simp, AllW.zeros _, (show _ = _ by simp [val_zeros, val_nil]), hz, grownBy_refl _ _⟩
  case round =>
    obtain ⟨i, Z, hi, rfl, hZl, hZw, Hv, hbz, hg⟩ := hrel
    by_cases hlt : i < lx
    · obtain ⟨g, o, he, _, hc⟩ := hX.grown hg i (by omega)
      subst he
      obtain ⟨x, hx⟩ : ∃ x, x = X.getD i 0 := ⟨_, rfl⟩
      rw [← hx] at hc
      have hxw : W64 x := by rw [hx]; exact hXw.getD i
      have Hx : Hid (x = X.getD i 0) := hx
      have HZl : Hid (Z.length = n) := hZl
      have HXl : Hid (X.length = lx) := hXl
      have HYl : Hid (Y.length = ly) := hYl
      clear hx hz hZl hXl hYl
      go_wp2
      go_loopw [32, 9] (fun t u wr2 => ∃ (j : Nat) (c : Int) (R : List Int), j ≤ ly ∧ t = .int .i64 j ∧ u = .int .u64 c ∧ W64 c ∧ R.length = j ∧ AllW R ∧ Hid (val R + c * pw j = val ((Z.drop i).take j) + x * val (Y.take j)) ∧ Blk wr2 gz 43 ((Z.take i ++ R) ++ Z.drop (i + j)) ∧ w.grownBy wr2 (some gz)) (fun t _ _ => ly - (intOf t).toNat)
      case atStart => exact ⟨0, 0, [], Nat.zero_le _, rfl, rfl, W64.zero, rfl, AllW.nil, (show _ = _ by simp [val_nil]), by simpa using hbz, hg⟩
      case round =>
        obtain ⟨j, c, R, hj, rfl, rfl, hcw, hRl, hRw, HR, hbj, hg2⟩ := hrel
        by_cases hlj : j < ly
        · obtain ⟨gy, oy, he, _, hcy⟩ := hY.grown hg2 j (by rw [HYl.out]; exact hlj)
          subst he
          obtain ⟨y, hy⟩ : ∃ y, y = Y.getD j 0 := ⟨_, rfl⟩
          rw [← hy] at hcy
          have hyw : W64 y := by rw [hy]; exact hYw.getD j
          have hij : i + j < Z.length := by rw [HZl.out]; omega
          obtain ⟨z, hz⟩ : ∃ z, z = Z.getD (i + j) 0 := ⟨_, rfl⟩
          have hzw : W64 z := by rw [hz]; exact hZw.getD _
          have hcz : wr.cell? ⟨gz, i + j, none⟩ = some (.int .u64 z) := by
            have := hbj.cell (i + j) (by rw [row_len Z R i j (by omega) hRl]; exact hij)
            rw [row_getD Z R i j (by omega) hRl, ← hz] at this
            exact this
          have hf := hbj.frozen (i + j)
          obtain ⟨l1, l2, l3, ⟨p1, p2, p3⟩, q1, q2, hd⟩ := mul_digit hxw hyw hzw hcw
          have Hd : Hid (val (R ++ [addLo (addLo (mulLo x y) z 0) c 0]) + (mulHi x y + addHi (mulLo x y) z 0 + addHi (addLo (mulLo x y) z 0) c 0) * pw (j + 1) = val ((Z.drop i).take (j + 1)) + x * val (Y.take (j + 1))) :=
            mul_inner hRl HR.out (by rw [hd, hy, hz, getD_drop])
          have hb2 := hbj.set (i + j) (addLo (addLo (mulLo x y) z 0) c 0)
          rw [row_set Z R i j _ hij hRl] at hb2
          have hg3 : w.grownBy (wr.setCell ⟨gz, i + j, none⟩ (.int .u64 (addLo (addLo (mulLo x y) z 0) c 0))) (some gz) := grownBy_set hg2
          have HRl : Hid ((R ++ [addLo (addLo (mulLo x y) z 0) c 0]).length = j + 1) := (show _ = _ by simp [hRl])
          have hRw2 := hRw.snoc l3
          have Hr : Hid (18446744073709551615 < (18446744073709551616 : Int)) := (show _ < _ by omega)
          clear hd hy hz hbj HR hX hY hbz hg hc hRw hRl
          go_wp2_with (first | (go_at_call 46; refine (mul_any _ _ hxw hyw _).mono ?_; rintro e w' ⟨rfl, rfl⟩) | (go_at_call 44; refine (add_any _ _ _ ?_ ?_ (Int.le_refl 0) (by decide) _).mono ?_; assumption; assumption; rintro e w' ⟨rfl, rfl⟩))
          go_roundw
          case rel => exact ⟨j + 1, _, _, by omega, by go_num, rfl, ⟨by omega, by omega⟩, HRl.out, hRw2, Hd, hb2, hg3⟩
          case measure => simp [intOf]; omega
        · have hje : ly ≤ j := by omega
          have Hj : Hid (j = ly) := (show j = ly by omega)
          have hij : i + ly < Z.length := by rw [HZl.out]; omega
          obtain ⟨z, hz⟩ : ∃ z, z = Z.getD (i + ly) 0 := ⟨_, rfl⟩
          have hcz : wr.cell? ⟨gz, i + ly, none⟩ = some (.int .u64 z) := by
            have := hbj.cell (i + ly) (by rw [row_len Z R i j (by omega) hRl]; exact hij)
            rw [← Hj.out, row_getD Z R i j (by omega) hRl] at this
            rw [hz, ← Hj.out]
            exact this
          have hf := hbj.frozen (i + ly)
          have hb2 : Blk (wr.setCell ⟨gz, i + ly, none⟩ (.int .u64 c)) gz 43 ((Z.take i ++ (R ++ [c])) ++ Z.drop (i + (ly + 1))) := by
            have := hbj.set (i + j) c
            rw [row_set Z R i j _ (by omega) hRl, Hj.out] at this
            exact this
          have hg3 : w.grownBy (wr.setCell ⟨gz, i + ly, none⟩ (.int .u64 c)) (some gz) := grownBy_set hg2
          have hRly : R.length = Y.length := by rw [hRl, HYl.out, Hj.out]
          have hZw2 : AllW ((Z.take i ++ (R ++ [c])) ++ Z.drop (i + (ly + 1))) := ((hZw.take i).append (hRw.snoc hcw)).append (hZw.drop _)
          have HZ2 : Hid (((Z.take i ++ (R ++ [c])) ++ Z.drop (i + (ly + 1))).length = n) := by
            show _ = n
            have := HZl.out; have := HYl.out
            simp; omega
          have Hv2 : Hid (val (((Z.take i ++ (R ++ [c])) ++ Z.drop (i + (ly + 1))).take (i + 1 + ly)) = val (X.take (i + 1)) * val Y) := by
            have hl : (Z.take i ++ (R ++ [c])).length = i + 1 + ly := by have := HYl.out; simp; omega
            have hr := HR.out
            rw [Hj.out, ← HYl.out, List.take_of_length_le (Nat.le_refl Y.length), Hx.out] at hr
            have hv := Hv.out
            rw [← HYl.out] at hv
            show val (List.take _ _) = _
            rw [List.take_append_of_le_length (by omega), List.take_of_length_le (by omega), ← List.append_assoc]
            exact mul_outer (by rw [HYl.out]; omega) hRly hv hr
          clear hRly hz hbj HR hX hY hbz hg hc hRw hRl Hv
          go_wp2
          go_roundw
          case rel => exact ⟨i + 1, _, by omega, by go_num, HZ2.out, hZw2, Hv2, hb2, hg3⟩
          case measure => simp [intOf]; omega
    · have hv := Hv.out
      rw [List.take_of_length_le (by rw [hZl, Hn.out]; omega), List.take_of_length_le (by omega)] at hv
      have Hv2 : Hid (val Z = val X * val Y) := hv
      clear Hv hv
      go_wp2
      go_end0
      exact ⟨rfl, Z, hZl, hZw, Hv2, hbz, hg⟩

set_option maxHeartbeats 400000 in
/-- ZZmulWords. -/
theorem zzmul_any (gz n cz : Nat) (ax : Option Addr) (lx cx : Nat) (ay : Option Addr) (ly cy : Nat) (X Y : List Int) (w : World)
    (hz : Blk w gz 25 (List.replicate n 0)) (hn : n = lx + ly) (hX : In w ax X) (hXl : X.length = lx) (hXw : AllW X) (hY : In w ay Y) (hYl : Y.length = ly) (hYw : AllW Y) (hb : n ≤ 1048576) :
    Calls Try.prog 18 #[.slice (some ⟨gz, 0, none⟩) n cz, .slice ax lx cx, .slice ay ly cy] w fun e w' => e = .returned (.tuple #[]) ∧ ∃ Z, Z.length = n ∧ AllW Z ∧ val Z = val X * val Y ∧ Blk w' gz 25 Z ∧ w.grownBy w' (some gz) := by
  have HXl : Hid (X.length = lx) := hXl
  have HYl : Hid (Y.length = ly) := hYl
  have Hn : Hid (n = lx + ly) := hn
  clear hXl hYl hn
  have hzl := hz.lt
  go_enter Try.func18, Try.ntmps18
  go_wp2_with fail
  refine (toWords_blk gz n cz 25 _ _ hz (by simp) hb).mono ?_
  rintro e w1 ⟨g, rfl, hg, hbg, hg1⟩
  go_wp2_with fail
  refine (toWords_in ax lx cx X _ (hX.grown0 hg1) HXl.out (by have := Hn.out; omega)).mono ?_
  rintro e w2 ⟨a2, rfl, hO2, hg2⟩
  go_wp2_with fail
  refine (toWords_in ay ly cy Y _ ((hY.grown0 hg1).grown0 hg2) HYl.out (by have := Hn.out; omega)).mono ?_
  rintro e w3 ⟨a3, rfl, hO3, hg3⟩
  go_wp2_with fail
  have hb3 := (hbg.grown0 hg2).grown0 hg3
  have l1 := hbg.lt
  have s2 := hg2.size
  have s1 := hg1.size
  have s3 := hg3.size
  refine (mulWords_any g n n a2 lx lx a3 ly ly X Y _ hb3 Hn.out (Nat.le_refl _) ((hO2.grown0 hg3).rd (fun b o e => by have := hO2.lt b o e; omega)) HXl.out hXw (hO3.rd (fun b o e => by have := hO3.lt b o e; omega)) HYl.out hYw hb).mono ?_
  rintro e w4 ⟨rfl, Z, hZl, hZw, hv, hbZ, hg4⟩
  have HZl : Hid (Z.length = n) := hZl
  have Hv : Hid (val Z = val X * val Y) := hv
  clear hZl hv
  go_wp2_with fail
  refine (store_any gz n cz (some ⟨g, 0, none⟩) n (List.replicate n 0) Z _ ((((hz.grown0 hg1).grown0 hg2).grown0 hg3).grown' hg4 (by omega)) (by simp) (Rd.of_blk hbZ (by omega)) HZl.out hb).mono ?_
  rintro e w5 ⟨rfl, hb5, hg5⟩
  go_wp2
  go_end0
  exact ⟨rfl, Z, HZl.out, hZw, Hv.out, hb5, grownBy_trans (grownBy_weak (grownBy_then (grownBy_then0 (grownBy_then0 hg1 hg2) hg3) hg4 (by omega))) hg5⟩
end Go.Proofs.Qxb6003414a

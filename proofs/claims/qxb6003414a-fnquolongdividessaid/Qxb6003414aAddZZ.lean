/-
  THE WALKS of ZZaddWords, ZZsubWords, ZZcmpWords.
-/
import Derived.Test.Qxb6003414aAdd
namespace Go.Proofs.Qxb6003414a
open Go Go.RowKit

theorem whole_row (M Z : List Int) (n : Nat) (hM : M.length = n) : (M.take 0 ++ Z) ++ M.drop (0 + n) = Z := by
  rw [List.take_zero, List.nil_append, Nat.zero_add, List.drop_of_length_le (by omega), List.append_nil]

set_option maxHeartbeats 400000 in
/-- ZZaddWords. -/
theorem zzadd_any (gz n cz : Nat) (ax : Option Addr) (cx : Nat) (ay : Option Addr) (ly cy : Nat) (M X Y : List Int) (w : World)
    (hz : Blk w gz 25 M) (hM : M.length = n) (hX : In w ax X) (hXl : X.length = n) (hXw : AllW X) (hY : In w ay Y) (hYl : Y.length = ly) (hYw : AllW Y) (hly : ly ≤ n) (hb : n ≤ 1048576) :
    Calls Try.prog 12 #[.slice (some ⟨gz, 0, none⟩) n cz, .slice ax n cx, .slice ay ly cy] w fun e w' => ∃ Z c, e = .returned (.int .u64 c) ∧ 0 ≤ c ∧ c ≤ 1 ∧ Z.length = n ∧ AllW Z ∧ val Z + c * pw n = val X + val Y ∧ Blk w' gz 25 Z ∧ w.grownBy w' (some gz) := by
  have HXl : Hid (X.length = n) := hXl
  have HYl : Hid (Y.length = ly) := hYl
  have HM : Hid (M.length = n) := hM
  clear hXl hYl hM
  have hzl := hz.lt
  go_enter Try.func12, Try.ntmps12
  go_wp2_with fail
  refine (toWords_blk gz n cz 25 M _ hz HM.out hb).mono ?_
  rintro e w1 ⟨g, rfl, hg, hbg, hg1⟩
  go_wp2_with fail
  refine (toWords_in ax n cx X _ (hX.grown0 hg1) HXl.out hb).mono ?_
  rintro e w2 ⟨a2, rfl, hO2, hg2⟩
  go_wp2_with fail
  refine (toWords_in ay ly cy Y _ ((hY.grown0 hg1).grown0 hg2) HYl.out (by omega)).mono ?_
  rintro e w3 ⟨a3, rfl, hO3, hg3⟩
  go_wp2_with fail
  have hb3 := (hbg.grown0 hg2).grown0 hg3
  have l1 := hbg.lt
  have s2 := hg2.size
  have s1 := hg1.size
  have s3 := hg3.size
  refine (addWords_any g 0 n n a2 n a3 ly ly M X Y _ hb3 (by rw [HM.out]; omega) (.inl ((hO2.grown0 hg3).rd (fun b o e => by have := hO2.lt b o e; omega))) HXl.out hXw (hO3.rd (fun b o e => by have := hO3.lt b o e; omega)) HYl.out hYw hb (by omega)).mono ?_
  rintro e w4 ⟨Z, c, rfl, hc0, hc1, hZl, hZw, hv, hbZ, hg4⟩
  rw [whole_row M Z n HM.out] at hbZ
  rw [List.take_of_length_le (by rw [HYl.out]; omega)] at hv
  have HZl : Hid (Z.length = n) := hZl
  have Hv : Hid (val Z + c * pw n = val X + val Y) := hv
  clear hZl hv
  go_wp2_with fail
  refine (store_any gz n cz (some ⟨g, 0, none⟩) n M Z _ ((((hz.grown0 hg1).grown0 hg2).grown0 hg3).grown' hg4 (by omega)) HM.out (Rd.of_blk hbZ (by omega)) HZl.out hb).mono ?_
  rintro e w5 ⟨rfl, hb5, hg5⟩
  go_wp2
  go_ret
  exact ⟨Z, c, rfl, hc0, hc1, HZl.out, hZw, Hv.out, hb5, grownBy_trans (grownBy_weak (grownBy_then (grownBy_then0 (grownBy_then0 hg1 hg2) hg3) hg4 (by omega))) hg5⟩

set_option maxHeartbeats 400000 in
/-- ZZsubWords. -/
theorem zzsub_any (gz n cz : Nat) (ax : Option Addr) (cx : Nat) (ay : Option Addr) (ly cy : Nat) (M X Y : List Int) (w : World)
    (hz : Blk w gz 25 M) (hM : M.length = n) (hX : In w ax X) (hXl : X.length = n) (hXw : AllW X) (hY : In w ay Y) (hYl : Y.length = ly) (hYw : AllW Y) (hly : ly ≤ n) (hb : n ≤ 1048576) :
    Calls Try.prog 13 #[.slice (some ⟨gz, 0, none⟩) n cz, .slice ax n cx, .slice ay ly cy] w fun e w' => e = .returned (.tuple #[]) ∧ ∃ Z c, 0 ≤ c ∧ c ≤ 1 ∧ Z.length = n ∧ AllW Z ∧ val Z - c * pw n = val X - val Y ∧ Blk w' gz 25 Z ∧ w.grownBy w' (some gz) := by
  have HXl : Hid (X.length = n) := hXl
  have HYl : Hid (Y.length = ly) := hYl
  have HM : Hid (M.length = n) := hM
  clear hXl hYl hM
  have hzl := hz.lt
  go_enter Try.func13, Try.ntmps13
  go_wp2_with fail
  refine (toWords_blk gz n cz 25 M _ hz HM.out hb).mono ?_
  rintro e w1 ⟨g, rfl, hg, hbg, hg1⟩
  go_wp2_with fail
  refine (toWords_in ax n cx X _ (hX.grown0 hg1) HXl.out hb).mono ?_
  rintro e w2 ⟨a2, rfl, hO2, hg2⟩
  go_wp2_with fail
  refine (toWords_in ay ly cy Y _ ((hY.grown0 hg1).grown0 hg2) HYl.out (by omega)).mono ?_
  rintro e w3 ⟨a3, rfl, hO3, hg3⟩
  go_wp2_with fail
  have hb3 := (hbg.grown0 hg2).grown0 hg3
  have l1 := hbg.lt
  have s2 := hg2.size
  have s1 := hg1.size
  have s3 := hg3.size
  refine (subWords_any g 0 n n a2 n a3 ly ly M X Y _ hb3 (by rw [HM.out]; omega) (.inl ((hO2.grown0 hg3).rd (fun b o e => by have := hO2.lt b o e; omega))) HXl.out hXw (hO3.rd (fun b o e => by have := hO3.lt b o e; omega)) HYl.out hYw hb (by omega)).mono ?_
  rintro e w4 ⟨rfl, Z, c, hc0, hc1, hZl, hZw, hv, hbZ, hg4⟩
  rw [whole_row M Z n HM.out] at hbZ
  rw [List.take_of_length_le (by rw [HYl.out]; omega)] at hv
  have HZl : Hid (Z.length = n) := hZl
  have Hv : Hid (val Z - c * pw n = val X - val Y) := hv
  clear hZl hv
  go_wp2_with fail
  refine (store_any gz n cz (some ⟨g, 0, none⟩) n M Z _ ((((hz.grown0 hg1).grown0 hg2).grown0 hg3).grown' hg4 (by omega)) HM.out (Rd.of_blk hbZ (by omega)) HZl.out hb).mono ?_
  rintro e w5 ⟨rfl, hb5, hg5⟩
  go_wp2
  go_end0
  exact ⟨rfl, Z, c, hc0, hc1, HZl.out, hZw, Hv.out, hb5, grownBy_trans (grownBy_weak (grownBy_then (grownBy_then0 (grownBy_then0 hg1 hg2) hg3) hg4 (by omega))) hg5⟩

set_option maxHeartbeats 400000 in
/-- ZZcmpWords of two trimmed numbers. -/
theorem zzcmp_any (a : Option Addr) (n c : Nat) (b : Option Addr) (m d : Nat) (X Y : List Int) (w : World) (hX : In w a X) (hXl : X.length = n) (hXw : AllW X) (tX : Trimmed X) (hY : In w b Y) (hYl : Y.length = m) (hYw : AllW Y) (tY : Trimmed Y) (hb : n ≤ 1048576) (hb2 : m ≤ 1048576) :
    Calls Try.prog 15 #[.slice a n c, .slice b m d] w fun e w' => e = .returned (.int .i64 (cmpI (val X) (val Y))) ∧ w.grownBy w' none := by
  have HXl : Hid (X.length = n) := hXl
  have HYl : Hid (Y.length = m) := hYl
  have HtX : Hid (Trimmed X) := tX
  have HtY : Hid (Trimmed Y) := tY
  clear hXl hYl tX tY
  go_enter Try.func15, Try.ntmps15
  go_wp2_with fail
  refine (toWords_in a n c X _ hX HXl.out hb).mono ?_
  rintro e w1 ⟨a1, rfl, hO1, hg1⟩
  go_wp2_with fail
  refine (toWords_in b m d Y _ (hY.grown0 hg1) HYl.out hb2).mono ?_
  rintro e w2 ⟨a2, rfl, hO2, hg2⟩
  go_wp2_with fail
  refine (cmpWords_any a1 n n a2 m m w2.heap.size X Y _ (hO1.grown0 hg2).inn.2 HXl.out hXw HtX.out hO2.inn.2 HYl.out hYw HtY.out hb hb2).mono ?_
  rintro e w3 ⟨rfl, hg3⟩
  go_wp2
  go_ret
  exact ⟨rfl, grownBy_then0 (grownBy_then0 hg1 hg2) hg3⟩
end Go.Proofs.Qxb6003414a

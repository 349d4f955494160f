/-
  THE WALKS of shlWords, shrWords, ZZshlWords, ZZshrWords.
-/
import Derived.Test.Qxb6003414aHelp
import Derived.Test.Qxb6003414aShlNum
import Derived.Laws.Bits64b
import Derived.RegionTactic
namespace Go.Proofs.Qxb6003414a
open Go Go.RowKit

theorem or_parts {a b : Int} {s : Nat} (hs : s ≤ 64) (ha0 : 0 ≤ a) (hb0 : 0 ≤ b) (hb : b < P2 s) (hw : P2 s * a < 18446744073709551616) :
    bits BinOp.or IntKind.u64 (P2 s * a) b = P2 s * a + b ∧ bits BinOp.or IntKind.u64 b (P2 s * a) = P2 s * a + b := by
  have hP : P2 s ≤ 18446744073709551616 := by
    rw [← B_eq, ← P2_mul s hs]
    have := Int.mul_le_mul_of_nonneg_left (show (1 : Int) ≤ P2 (64 - s) from P2_pos _) (Int.le_of_lt (P2_pos s))
    rwa [Int.mul_one] at this
  obtain ⟨k, rfl⟩ := Int.eq_ofNat_of_zero_le ha0
  obtain ⟨m, rfl⟩ := Int.eq_ofNat_of_zero_le hb0
  obtain ⟨N, hN⟩ : ∃ N : Nat, N = 2 ^ s := ⟨_, rfl⟩
  have e : P2 s = (N : Int) := by unfold P2; rw [hN]; simp
  rw [e] at hb hP hw
  rw [e, ← Int.natCast_mul]
  rw [← Int.natCast_mul] at hw
  have h1 : m < 2 ^ s := by rw [← hN]; omega
  have h5 := Nat.two_pow_add_eq_or_of_lt h1 k
  rw [← hN] at h5
  constructor
  · rw [bits_or_u64_nat _ _ (by omega) (by omega), ← h5]; omega
  · rw [bits_or_u64_nat _ _ (by omega) (by omega), Nat.or_comm, ← h5]; omega
theorem shl_top_lt {x : Int} {s : Nat} (hs : s ≤ 64) : P2 s * (x % P2 (64 - s)) < 18446744073709551616 := by
  have h := shlD_w (x := x) W64.zero s hs
  unfold shlD at h
  rw [Int.zero_ediv, Int.add_zero] at h
  exact h.2
/-- x << s | p >> (64 - s), as the walk writes it. -/
theorem or_shl {x p : Int} {s : Nat} (hp : W64 p) (hs : s ≤ 64) : bits BinOp.or IntKind.u64 (IntKind.u64.wrap (x * 2 ^ s)) (p / 2 ^ (64 - s)) = shlD s x p := by
  have h1 := shr_lt hp s hs
  have h := (or_parts hs (mod_P2 x (64 - s)).1 h1.1 h1.2 (shl_top_lt hs)).1
  rw [IntKind.wrap_u64]
  have e : (x * 2 ^ s) % 18446744073709551616 = P2 s * (x % P2 (64 - s)) := shl_word x s hs
  rw [e]
  exact h
theorem shl_low {x : Int} {s : Nat} (hs : s ≤ 64) : IntKind.u64.wrap (x * 2 ^ s) = shlD s x 0 := by
  rw [IntKind.wrap_u64]
  have e : (x * 2 ^ s) % 18446744073709551616 = P2 s * (x % P2 (64 - s)) := shl_word x s hs
  rw [e]
  unfold shlD
  rw [Int.zero_ediv, Int.add_zero]
/-- x >> s | y << (64 - s). -/
theorem or_shr {x y : Int} {s : Nat} (hx : W64 x) (hs : s ≤ 64) : bits BinOp.or IntKind.u64 (x / 2 ^ s) (IntKind.u64.wrap (y * 2 ^ (64 - s))) = shrD s x y := by
  have es : 64 - (64 - s) = s := by omega
  have h1 := shr_lt hx (64 - s) (by omega)
  rw [es] at h1
  have h2 := shl_top_lt (x := y) (s := 64 - s) (by omega)
  rw [es] at h2
  have h := (or_parts (s := 64 - s) (by omega) (mod_P2 y s).1 h1.1 h1.2 h2).2
  rw [IntKind.wrap_u64]
  have e : (y * 2 ^ (64 - s)) % 18446744073709551616 = P2 (64 - s) * (y % P2 s) := by
    have := shl_word y (64 - s) (by omega)
    rw [es] at this
    exact this
  rw [e]
  unfold shrD
  rw [Int.add_comm]
  exact h
theorem shr_high {x : Int} {s : Nat} (hx : W64 x) (hs : s ≤ 64) : bits BinOp.or IntKind.u64 (x / 2 ^ s) 0 = shrD s x 0 := by
  have := or_shr (y := 0) hx hs
  rw [Int.zero_mul, IntKind.wrap_u64] at this
  exact this

/-- Where shlWords reads: outside the row that it writes, or that row's own head. -/
def Src (w : World) (ax : Option Addr) (gz : Nat) (M X : List Int) : Prop := Rd w ax gz X ∨ (ax = some ⟨gz, 0, none⟩ ∧ X = M.take X.length)
theorem src_cell {w wr : World} {ax : Option Addr} {gz : Nat} {M X R : List Int} {i : Nat} (h : Src w ax gz M X) (hM : X.length ≤ M.length) (hi : i < X.length) (hb : Blk wr gz 43 (M.take (i + 1) ++ R)) (hg : w.grownBy wr (some gz)) :
    ∃ g o, ax = some ⟨g, o, none⟩ ∧ ∀ j, j ≤ i → wr.cell? ⟨g, o + j, none⟩ = some (.int .u64 (X.getD j 0)) := by
  rcases h with h | ⟨rfl, hX⟩
  · obtain ⟨g, o, e, _, _⟩ := h i hi
    refine ⟨g, o, e, fun j hj => ?_⟩
    obtain ⟨g', o', e', _, hc⟩ := h.grown hg j (by omega)
    rw [e] at e'
    simp only [Option.some.injEq, Addr.mk.injEq] at e'
    rw [e'.1, e'.2.1]; exact hc
  · refine ⟨gz, 0, rfl, fun j hj => ?_⟩
    have hc := hb.cell j (by simp; omega)
    have e1 : (M.take (i + 1) ++ R).getD j 0 = M.getD j 0 := by
      simp only [List.getD]
      rw [List.getElem?_append_left (by simp; omega)]
      simp [show j < i + 1 by omega]
    have e2 : X.getD j 0 = M.getD j 0 := by
      rw [hX, getD_take _ _ _ (by omega)]
    rw [Nat.zero_add, e2, ← e1]; exact hc

/-- The row while the shift goes down. -/
theorem down_set (M T D : List Int) (i : Nat) (hi : i < M.length) (hT : i < T.length) : (M.take (i + 1) ++ (T.drop (i + 1) ++ D)).set i (T.getD i 0) = M.take i ++ (T.drop i ++ D) := by
  have h1 : (M.take i).length = i := by simp; omega
  rw [List.take_succ_eq_append_getElem hi, List.append_assoc, List.set_append, if_neg (by omega), h1, Nat.sub_self, List.singleton_append, List.set_cons_zero, List.drop_eq_getElem_cons hT, getD_of_lt T i hT]
  rfl

set_option maxHeartbeats 1000000 in
/-- shlWords. -/
theorem shlWords_any (gz n cz : Nat) (ax : Option Addr) (cx : Nat) (M X : List Int) (s : Nat) (w : World) (hz : Blk w gz 43 M) (hM : n ≤ M.length) (hX : Src w ax gz M X) (hXl : X.length = n) (hXw : AllW X) (hs : s ≤ 63) (hb : n ≤ 1048576) :
    Calls Try.prog 38 #[.slice (some ⟨gz, 0, none⟩) n cz, .slice ax n cx, .int .u64 s] w fun e w' => e = .returned (.int .u64 (lastOf 0 X / P2 (64 - s))) ∧ Blk w' gz 43 (shlL s 0 X ++ M.drop n) ∧ w.grownBy w' (some gz) := by
  by_cases hn : n = 0
  · subst hn
    obtain rfl := List.eq_nil_of_length_eq_zero hXl
    go_enter Try.func38, Try.ntmps38
    go_wp2
    go_ret
    refine ⟨by simp [lastOf], by simpa [shlL] using hz, grownBy_refl _ _⟩
  · have hn0 : ((n : Int) == 0) = false := by rw [beq_eq_false_iff_ne]; omega
    have hTl : (shlL s 0 X).length = n := by rw [shlL_len, hXl]
    have HTl : Hid ((shlL s 0 X).length = n) := hTl
    have HXl : Hid (X.length = n) := hXl
    have hpos : 1 ≤ n := by omega
    have hbz : Blk w gz 43 (M.take (n - 1 + 1) ++ ((shlL s 0 X).drop (n - 1 + 1) ++ M.drop n)) := by
      have e : n - 1 + 1 = n := by omega
      rw [e, List.drop_of_length_le (l := shlL s 0 X) (by omega), List.nil_append, List.take_append_drop]
      exact hz
    obtain ⟨g, o, rfl, hcs⟩ := src_cell hX (by omega) (show n - 1 < X.length by omega) hbz (grownBy_refl _ _)
    obtain ⟨t, ht⟩ : ∃ t, t = X.getD (n - 1) 0 := ⟨_, rfl⟩
    have hct : w.cell? ⟨g, o + (n - 1), none⟩ = some (.int .u64 t) := by rw [ht]; exact hcs _ (Nat.le_refl _)
    have Ht : Hid (lastOf 0 X = t) := (show _ = _ by rw [lastOf_eq 0 X (by omega), hXl, ← ht])
    clear hn hcs ht hTl hXl
    go_enter Try.func38, Try.ntmps38
    go_wp2
    go_loopw [8] (fun v wr => ∃ i : Nat, i < n ∧ v = .int .i64 i ∧ Blk wr gz 43 (M.take (i + 1) ++ ((shlL s 0 X).drop (i + 1) ++ M.drop n)) ∧ w.grownBy wr (some gz)) (fun v _ => (intOf v).toNat)
    case atStart => exact ⟨n - 1, by omega, by go_num, hbz, grownBy_refl _ _⟩
    case round =>
      obtain ⟨i, hi, rfl, hbi, hg⟩ := hrel
      obtain ⟨g', o', he, hcs⟩ := src_cell hX (by rw [HXl.out]; omega) (show i < X.length by rw [HXl.out]; omega) hbi hg
      simp only [Option.some.injEq, Addr.mk.injEq, and_true] at he
      obtain ⟨rfl, rfl⟩ := he
      obtain ⟨x, hx⟩ : ∃ x, x = X.getD i 0 := ⟨_, rfl⟩
      have hc1 : wr.cell? ⟨g, o + i, none⟩ = some (.int .u64 x) := by rw [hx]; exact hcs i (Nat.le_refl _)
      have hf := hbi.frozen i
      have hlen : i < (M.take (i + 1) ++ ((shlL s 0 X).drop (i + 1) ++ M.drop n)).length := by simp; omega
      have hold := hbi.cell i hlen
      generalize (M.take (i + 1) ++ ((shlL s 0 X).drop (i + 1) ++ M.drop n)).getD i 0 = old at hold
      have hset := hbi.set i ((shlL s 0 X).getD i 0)
      rw [down_set M (shlL s 0 X) (M.drop n) i (by omega) (by rw [HTl.out]; omega)] at hset
      have hT := shlL_getD s 0 X i (by rw [HXl.out]; omega)
      rw [← hx] at hT
      by_cases hlt : 0 < i
      · obtain ⟨p, hp⟩ : ∃ p, p = X.getD (i - 1) 0 := ⟨_, rfl⟩
        have hc2 : wr.cell? ⟨g, o + (i - 1), none⟩ = some (.int .u64 p) := by rw [hp]; exact hcs (i - 1) (by omega)
        have hpw : W64 p := by rw [hp]; exact hXw.getD _
        rw [if_neg (by omega), ← hp] at hT
        rw [hT] at hset
        have e := or_shl (x := x) (s := s) hpw (by omega)
        have hi1 : (0 : Int) < (i : Int) := by omega
        have hin : (i : Int) < (n : Int) := by omega
        have hgn : w.grownBy (wr.setCell ⟨gz, i, none⟩ (.int .u64 (shlD s x p))) (some gz) := grownBy_set hg
        have Hs : Hid (Blk (wr.setCell ⟨gz, i, none⟩ (.int .u64 (shlD s x p))) gz 43 (M.take (i - 1 + 1) ++ ((shlL s 0 X).drop (i - 1 + 1) ++ M.drop n))) := by
          have ei : i - 1 + 1 = i := by omega
          rw [ei]; exact hset
        clear hcs hx hp hT hset hbi hlen hz hbz hct hg
        go_wp2
        go_region
        all_goals
          go_wp2
          go_roundw
          case rel => exact ⟨i - 1, by omega, by go_num, Hs.out.drew, grownBy_drew hgn⟩
          case measure => simp [intOf]; omega
      · obtain rfl : i = 0 := by omega
        rw [if_pos rfl] at hT
        rw [hT] at hset
        have e := shl_low (x := x) (s := s) (by omega)
        have hgn : w.grownBy (wr.setCell ⟨gz, 0, none⟩ (.int .u64 (shlD s x 0))) (some gz) := grownBy_set hg
        have Hs : Hid (Blk (wr.setCell ⟨gz, 0, none⟩ (.int .u64 (shlD s x 0))) gz 43 (shlL s 0 X ++ M.drop n)) := by
          show Blk _ _ _ _
          simpa using hset
        rw [Nat.add_zero] at hc1
        clear hcs hx hT hset hbi hlen hz hbz hct hg hlt
        go_wp2
        go_ret
        exact ⟨by rw [Ht.out]; rfl, Hs.out, hgn⟩

/-- The row while the shift down goes up. -/
theorem up_getD (T Z : List Int) (k j : Nat) (hk : k ≤ j) (hT : k ≤ T.length) : (T.take k ++ Z.drop k).getD j 0 = Z.getD j 0 := by
  have h1 : (T.take k).length = k := by simp; omega
  simp only [List.getD]
  rw [List.getElem?_append_right (by omega), h1, List.getElem?_drop]
  congr 2; omega

set_option maxHeartbeats 1000000 in
/-- shrWords. -/
theorem shrWords_any (gz n cz : Nat) (Z : List Int) (s : Nat) (w : World) (hz : Blk w gz 43 Z) (hZl : Z.length = n) (hZw : AllW Z) (hs : s ≤ 63) (hb : n ≤ 1048576) :
    Calls Try.prog 39 #[.slice (some ⟨gz, 0, none⟩) n cz, .int .u64 s] w fun e w' => e = .returned (.tuple #[]) ∧ Blk w' gz 43 (shrL s Z) ∧ w.grownBy w' (some gz) := by
  have HZl : Hid (Z.length = n) := hZl
  have HTl : Hid ((shrL s Z).length = n) := (show _ = _ by rw [shrL_len, hZl])
  clear hZl
  go_enter Try.func39, Try.ntmps39
  go_wp2
  go_loopw [8] (fun t wr => ∃ (i : Nat), i ≤ n ∧ t = .int .i64 i ∧ Blk wr gz 43 ((shrL s Z).take i ++ Z.drop i) ∧ w.grownBy wr (some gz)) (fun t _ => n - (intOf t).toNat)
  case atStart => exact ⟨0, Nat.zero_le _, rfl, by simpa using hz, grownBy_refl _ _⟩
  case round =>
    obtain ⟨i, hi, rfl, hbT, hg⟩ := hrel
    by_cases hlt : i < n
    · have hlen : ((shrL s Z).take i ++ Z.drop i).length = n := by have := HZl.out; have := HTl.out; simp; omega
      have hc := hbT.cell i (by omega)
      have hf := hbT.frozen i
      rw [up_getD _ _ i i (Nat.le_refl _) (by rw [HTl.out]; omega)] at hc
      have hset := hbT.set i ((shrL s Z).getD i 0)
      rw [fill_step (shrL s Z) Z i (by rw [HZl.out]; omega) (by rw [HTl.out]; omega), shrL_getD s Z i (by rw [HZl.out]; omega)] at hset
      obtain ⟨x, hx⟩ : ∃ x, x = Z.getD i 0 := ⟨_, rfl⟩
      have hxw : W64 x := by rw [hx]; exact hZw.getD _
      rw [← hx] at hc hset
      by_cases hl2 : i + 1 < n
      · have hc2 := hbT.cell (i + 1) (by omega)
        rw [up_getD _ _ i (i + 1) (by omega) (by rw [HTl.out]; omega)] at hc2
        obtain ⟨y, hy⟩ : ∃ y, y = Z.getD (i + 1) 0 := ⟨_, rfl⟩
        rw [← hy] at hc2 hset
        have e := or_shr (y := y) (s := s) hxw (by omega)
        have hgn : w.grownBy (wr.setCell ⟨gz, i, none⟩ (.int .u64 (shrD s x y))) (some gz) := grownBy_set hg
        clear hx hy hbT hz hlen
        go_wp2
        go_roundw
        case rel => exact ⟨i + 1, by omega, by go_num, hset, hgn⟩
        case measure => simp [intOf]; omega
      · have hy : Z.getD (i + 1) 0 = 0 := by simp [List.getD, List.getElem?_eq_none (show Z.length ≤ i + 1 by rw [HZl.out]; omega)]
        rw [hy] at hset
        have e := shr_high (s := s) hxw (by omega)
        have hgn : w.grownBy (wr.setCell ⟨gz, i, none⟩ (.int .u64 (shrD s x 0))) (some gz) := grownBy_set hg
        clear hx hy hbT hz hlen
        go_wp2
        go_roundw
        case rel => exact ⟨i + 1, by omega, by go_num, hset, hgn⟩
        case measure => simp [intOf]; omega
    · go_wp2
      go_end0
      rw [List.take_of_length_le (by rw [HTl.out]; omega), List.drop_of_length_le (by rw [HZl.out]; omega), List.append_nil] at hbT
      exact ⟨rfl, hbT, hg⟩

set_option maxHeartbeats 400000 in
/-- ZZshlWords. -/
theorem zzshl_any (gz n cz : Nat) (ax : Option Addr) (cx : Nat) (M X : List Int) (s : Nat) (w : World) (hz : Blk w gz 25 M) (hM : M.length = n) (hX : In w ax X) (hXl : X.length = n) (hXw : AllW X) (hs : s ≤ 63) (hb : n ≤ 1048576) :
    Calls Try.prog 22 #[.slice (some ⟨gz, 0, none⟩) n cz, .slice ax n cx, .int .u64 s] w fun e w' => e = .returned (.int .u64 (lastOf 0 X / P2 (64 - s))) ∧ Blk w' gz 25 (shlL s 0 X) ∧ w.grownBy w' (some gz) := by
  have HXl : Hid (X.length = n) := hXl
  have HM : Hid (M.length = n) := hM
  clear hXl hM
  have hzl := hz.lt
  go_enter Try.func22, Try.ntmps22
  go_wp2_with fail
  refine (toWords_blk gz n cz 25 M _ hz HM.out hb).mono ?_
  rintro e w1 ⟨g, rfl, hg, hbg, hg1⟩
  go_wp2_with fail
  refine (toWords_in ax n cx X _ (hX.grown0 hg1) HXl.out hb).mono ?_
  rintro e w2 ⟨a2, rfl, hO2, hg2⟩
  go_wp2_with fail
  have l1 := hbg.lt
  have s1 := hg1.size
  have s2 := hg2.size
  refine (shlWords_any g n n a2 n M X s _ (hbg.grown0 hg2) (by rw [HM.out]; omega) (.inl (hO2.rd (fun b o e => by have := hO2.lt b o e; omega))) HXl.out hXw hs hb).mono ?_
  rintro e w3 ⟨rfl, hbZ, hg3⟩
  rw [List.drop_of_length_le (by rw [HM.out]; omega), List.append_nil] at hbZ
  go_wp2_with fail
  refine (store_any gz n cz (some ⟨g, 0, none⟩) n M (shlL s 0 X) _ (((hz.grown0 hg1).grown0 hg2).grown' hg3 (by omega)) HM.out (Rd.of_blk hbZ (by omega)) (by rw [shlL_len, HXl.out]) hb).mono ?_
  rintro e w4 ⟨rfl, hb4, hg4⟩
  go_wp2
  go_ret
  exact ⟨rfl, hb4, grownBy_trans (grownBy_weak (grownBy_then (grownBy_then0 hg1 hg2) hg3 (by omega))) hg4⟩

set_option maxHeartbeats 400000 in
/-- ZZshrWords. -/
theorem zzshr_any (gz n cz : Nat) (Z : List Int) (s : Nat) (w : World) (hz : Blk w gz 25 Z) (hZl : Z.length = n) (hZw : AllW Z) (hs : s ≤ 63) (hb : n ≤ 1048576) :
    Calls Try.prog 23 #[.slice (some ⟨gz, 0, none⟩) n cz, .int .u64 s] w fun e w' => e = .returned (.tuple #[]) ∧ Blk w' gz 25 (shrL s Z) ∧ w.grownBy w' (some gz) := by
  have HZl : Hid (Z.length = n) := hZl
  clear hZl
  have hzl := hz.lt
  go_enter Try.func23, Try.ntmps23
  go_wp2_with fail
  refine (toWords_blk gz n cz 25 Z _ hz HZl.out hb).mono ?_
  rintro e w1 ⟨g, rfl, hg, hbg, hg1⟩
  go_wp2_with fail
  refine (shrWords_any g n n Z s _ hbg HZl.out hZw hs hb).mono ?_
  rintro e w2 ⟨rfl, hb2, hg2⟩
  go_wp2_with fail
  refine (store_any gz n cz (some ⟨g, 0, none⟩) n Z (shrL s Z) _ ((hz.grown0 hg1).grown' hg2 (by omega)) HZl.out (Rd.of_blk hb2 (by omega)) (by rw [shrL_len, HZl.out]) hb).mono ?_
  rintro e w3 ⟨rfl, hb3, hg3⟩
  go_wp2
  go_end0
  exact ⟨rfl, hb3, grownBy_trans (grownBy_weak (grownBy_then hg1 hg2 (by omega))) hg3⟩
end Go.Proofs.Qxb6003414a

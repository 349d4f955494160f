/-
  THE WALKS of addWords, subWords, mulSubWords, cmpWords, zzTrim and their ZZ shims.
-/
import Derived.Test.Qxb6003414aHelp
import Derived.Test.Qxb6003414aBits
import Derived.Test.Qxb6003414aAddNum
import Derived.Test.Qxb6003414aMul
namespace Go.Proofs.Qxb6003414a
open Go Go.RowKit

/-- Where addWords reads x: outside the row that it writes, or the very cells that it writes. -/
def SrcAt (w : World) (ax : Option Addr) (gz oz : Nat) (M X : List Int) : Prop := Rd w ax gz X ∨ (ax = some ⟨gz, oz, none⟩ ∧ X = (M.drop oz).take X.length)
theorem srcAt_cell {w wr : World} {ax : Option Addr} {gz oz k : Nat} {M X R : List Int} (h : SrcAt w ax gz oz M X) (hM : oz + X.length ≤ M.length) (hk : k < X.length) (hR : R.length = k)
    (hb : Blk wr gz 43 ((M.take oz ++ R) ++ M.drop (oz + k))) (hg : w.grownBy wr (some gz)) :
    ∃ g o, ax = some ⟨g, o, none⟩ ∧ wr.cell? ⟨g, o + k, none⟩ = some (.int .u64 (X.getD k 0)) := by
  rcases h with h | ⟨rfl, hX⟩
  · obtain ⟨g, o, e, _, hc⟩ := h.grown hg k hk
    exact ⟨g, o, e, hc⟩
  · refine ⟨gz, oz, rfl, ?_⟩
    have hc := hb.cell (oz + k) (by rw [row_len M R oz k (by omega) hR]; omega)
    rw [row_getD M R oz k (by omega) hR] at hc
    rw [hX, getD_take _ _ _ hk, getD_drop]
    exact hc

set_option maxHeartbeats 1000000 in
/-- addWords, at whatever place of the row. -/
theorem addWords_any (gz oz n cz : Nat) (ax : Option Addr) (cx : Nat) (ay : Option Addr) (ly cy : Nat) (M X Y : List Int) (w : World)
    (hz : Blk w gz 43 M) (hM : oz + n ≤ M.length) (hX : SrcAt w ax gz oz M X) (hXl : X.length = n) (hXw : AllW X) (hY : Rd w ay gz Y) (hYl : Y.length = ly) (hYw : AllW Y) (hb : n ≤ 1048576) (_hb2 : ly ≤ 1048576) :
    Calls Try.prog 32 #[.slice (some ⟨gz, oz, none⟩) n cz, .slice ax n cx, .slice ay ly cy] w fun e w' => ∃ Z c, e = .returned (.int .u64 c) ∧ 0 ≤ c ∧ c ≤ 1 ∧ Z.length = n ∧ AllW Z ∧ val Z + c * pw n = val X + val (Y.take n) ∧ Blk w' gz 43 ((M.take oz ++ Z) ++ M.drop (oz + n)) ∧ w.grownBy w' (some gz) := by
  have HXl : Hid (X.length = n) := hXl
  have HYl : Hid (Y.length = ly) := hYl
  clear hXl hYl
  go_enter Try.func32, Try.ntmps32
  go_wp2
  go_loopw [13, 7] (fun t u wr => ∃ (k : Nat) (c : Int) (R : List Int), k ≤ n ∧ t = .int .i64 k ∧ u = .int .u64 c ∧ 0 ≤ c ∧ c ≤ 1 ∧ R.length = k ∧ AllW R ∧ Hid (val R + c * pw k = val (X.take k) + val (Y.take k)) ∧ Blk wr gz 43 ((M.take oz ++ R) ++ M.drop (oz + k)) ∧ w.grownBy wr (some gz)) (fun t _ _ => n - (intOf t).toNat)
  case atStart => exact ⟨0, 0, [], Nat.zero_le _, rfl, rfl, by omega, by omega, rfl, AllW.nil, (show _ = _ by simp [val_nil]), by simpa using hz, grownBy_refl _ _⟩
  case round =>
    obtain ⟨k, c, R, hk, rfl, rfl, hc0, hc1, hRl, hRw, HR, hbk, hg⟩ := hrel
    by_cases hlt : k < n
    · obtain ⟨g, o, he, hcx⟩ := srcAt_cell hX (by rw [HXl.out]; omega) (by rw [HXl.out]; omega) hRl hbk hg
      subst he
      obtain ⟨x, hx⟩ : ∃ x, x = X.getD k 0 := ⟨_, rfl⟩
      rw [← hx] at hcx
      have hxw : W64 x := by rw [hx]; exact hXw.getD k
      have hf := hbk.frozen (oz + k)
      have hold := hbk.cell (oz + k) (by rw [row_len M R oz k (by omega) hRl]; omega)
      generalize ((M.take oz ++ R) ++ M.drop (oz + k)).getD (oz + k) 0 = old at hold
      obtain ⟨y, hy⟩ : ∃ y, y = Y.getD k 0 := ⟨_, rfl⟩
      have hyw : W64 y := by rw [hy]; exact hYw.getD k
      obtain ⟨f1, f2, f3, f4⟩ := add_facts hxw hyw hc0 hc1
      have Hd : Hid (val (R ++ [addLo x y c]) + addHi x y c * pw (k + 1) = val (X.take (k + 1)) + val (Y.take (k + 1))) := add_step hRl HR.out (by rw [f4, hx, hy])
      have hb2 := hbk.set (oz + k) (addLo x y c)
      rw [row_set M R oz k _ (by omega) hRl] at hb2
      have hg2 : w.grownBy (wr.setCell ⟨gz, oz + k, none⟩ (.int .u64 (addLo x y c))) (some gz) := grownBy_set hg
      have HRl : Hid ((R ++ [addLo x y c]).length = k + 1) := (show _ = _ by simp [hRl])
      have hRw2 := hRw.snoc f1
      by_cases hly : k < ly
      · obtain ⟨gy, oy, he, _, hcy⟩ := hY.grown hg k (by rw [HYl.out]; exact hly)
        subst he
        rw [← hy] at hcy
        clear f4 hx hy hbk HR hX hY hRw hRl hz hg
        go_wp2_with (go_at_call 44; refine (add_any _ _ _ hxw hyw hc0 hc1 _).mono ?_; rintro e w' ⟨rfl, rfl⟩)
        go_roundw
        case rel => exact ⟨k + 1, _, _, by omega, by go_num, rfl, f2, f3, HRl.out, hRw2, Hd, hb2, hg2⟩
        case measure => simp [intOf]; omega
      · have hy0 : y = 0 := by rw [hy]; simp [List.getD, List.getElem?_eq_none (show Y.length ≤ k by rw [HYl.out]; omega)]
        clear f4 hx hy hbk HR hX hY hRw hRl hz hg
        subst hy0
        go_wp2_with (go_at_call 44; refine (add_any _ _ _ hxw hyw hc0 hc1 _).mono ?_; rintro e w' ⟨rfl, rfl⟩)
        go_roundw
        case rel => exact ⟨k + 1, _, _, by omega, by go_num, rfl, f2, f3, HRl.out, hRw2, Hd, hb2, hg2⟩
        case measure => simp [intOf]; omega
    · have Hk : Hid (k = n) := (show k = n by omega)
      have Hv : Hid (val R + c * pw n = val X + val (Y.take n)) := by
        have h := HR.out
        rw [Hk.out, List.take_of_length_le (l := X) (by rw [HXl.out]; omega)] at h
        exact h
      have Hl : Hid (R.length = n) := (show _ = _ by rw [hRl, Hk.out])
      have hb3 : Blk wr gz 43 ((M.take oz ++ R) ++ M.drop (oz + n)) := by rw [Hk.out] at hbk; exact hbk
      clear HR hbk hRl
      go_wp2
      go_ret
      exact ⟨R, c, rfl, hc0, hc1, Hl.out, hRw, Hv.out, hb3, hg⟩
set_option maxHeartbeats 1000000 in
/-- subWords, at whatever place of the row. -/
theorem subWords_any (gz oz n cz : Nat) (ax : Option Addr) (cx : Nat) (ay : Option Addr) (ly cy : Nat) (M X Y : List Int) (w : World)
    (hz : Blk w gz 43 M) (hM : oz + n ≤ M.length) (hX : SrcAt w ax gz oz M X) (hXl : X.length = n) (hXw : AllW X) (hY : Rd w ay gz Y) (hYl : Y.length = ly) (hYw : AllW Y) (hb : n ≤ 1048576) (_hb2 : ly ≤ 1048576) :
    Calls Try.prog 34 #[.slice (some ⟨gz, oz, none⟩) n cz, .slice ax n cx, .slice ay ly cy] w fun e w' => e = .returned (.tuple #[]) ∧ ∃ Z c, 0 ≤ c ∧ c ≤ 1 ∧ Z.length = n ∧ AllW Z ∧ val Z - c * pw n = val X - val (Y.take n) ∧ Blk w' gz 43 ((M.take oz ++ Z) ++ M.drop (oz + n)) ∧ w.grownBy w' (some gz) := by
  have HXl : Hid (X.length = n) := hXl
  have HYl : Hid (Y.length = ly) := hYl
  clear hXl hYl
  go_enter Try.func34, Try.ntmps34
  go_wp2
  go_loopw [12, 6] (fun t u wr => ∃ (k : Nat) (c : Int) (R : List Int), k ≤ n ∧ t = .int .i64 k ∧ u = .int .u64 c ∧ 0 ≤ c ∧ c ≤ 1 ∧ R.length = k ∧ AllW R ∧ Hid (val R - c * pw k = val (X.take k) - val (Y.take k)) ∧ Blk wr gz 43 ((M.take oz ++ R) ++ M.drop (oz + k)) ∧ w.grownBy wr (some gz)) (fun t _ _ => n - (intOf t).toNat)
  case atStart => exact ⟨0, 0, [], Nat.zero_le _, rfl, rfl, by omega, by omega, rfl, AllW.nil, (show _ = _ by simp [val_nil]), by simpa using hz, grownBy_refl _ _⟩
  case round =>
    obtain ⟨k, c, R, hk, rfl, rfl, hc0, hc1, hRl, hRw, HR, hbk, hg⟩ := hrel
    by_cases hlt : k < n
    · obtain ⟨g, o, he, hcx⟩ := srcAt_cell hX (by rw [HXl.out]; omega) (by rw [HXl.out]; omega) hRl hbk hg
      subst he
      obtain ⟨x, hx⟩ : ∃ x, x = X.getD k 0 := ⟨_, rfl⟩
      rw [← hx] at hcx
      have hxw : W64 x := by rw [hx]; exact hXw.getD k
      have hf := hbk.frozen (oz + k)
      have hold := hbk.cell (oz + k) (by rw [row_len M R oz k (by omega) hRl]; omega)
      generalize ((M.take oz ++ R) ++ M.drop (oz + k)).getD (oz + k) 0 = old at hold
      obtain ⟨y, hy⟩ : ∃ y, y = Y.getD k 0 := ⟨_, rfl⟩
      have hyw : W64 y := by rw [hy]; exact hYw.getD k
      obtain ⟨f1, f2, f3, f4⟩ := sub_facts hxw hyw hc0 hc1
      have Hd : Hid (val (R ++ [subLo x y c]) - subHi x y c * pw (k + 1) = val (X.take (k + 1)) - val (Y.take (k + 1))) := sub_step hRl HR.out (by rw [f4, hx, hy])
      have hb2 := hbk.set (oz + k) (subLo x y c)
      rw [row_set M R oz k _ (by omega) hRl] at hb2
      have hg2 : w.grownBy (wr.setCell ⟨gz, oz + k, none⟩ (.int .u64 (subLo x y c))) (some gz) := grownBy_set hg
      have HRl : Hid ((R ++ [subLo x y c]).length = k + 1) := (show _ = _ by simp [hRl])
      have hRw2 := hRw.snoc f1
      by_cases hly : k < ly
      · obtain ⟨gy, oy, he, _, hcy⟩ := hY.grown hg k (by rw [HYl.out]; exact hly)
        subst he
        rw [← hy] at hcy
        clear f4 hx hy hbk HR hX hY hRw hRl hz hg
        go_wp2_with (go_at_call 45; refine (sub_any _ _ _ hxw hyw hc0 hc1 _).mono ?_; rintro e w' ⟨rfl, rfl⟩)
        go_roundw
        case rel => exact ⟨k + 1, _, _, by omega, by go_num, rfl, f2, f3, HRl.out, hRw2, Hd, hb2, hg2⟩
        case measure => simp [intOf]; omega
      · have hy0 : y = 0 := by rw [hy]; simp [List.getD, List.getElem?_eq_none (show Y.length ≤ k by rw [HYl.out]; omega)]
        clear f4 hx hy hbk HR hX hY hRw hRl hz hg
        subst hy0
        go_wp2_with (go_at_call 45; refine (sub_any _ _ _ hxw hyw hc0 hc1 _).mono ?_; rintro e w' ⟨rfl, rfl⟩)
        go_roundw
        case rel => exact ⟨k + 1, _, _, by omega, by go_num, rfl, f2, f3, HRl.out, hRw2, Hd, hb2, hg2⟩
        case measure => simp [intOf]; omega
    · have Hk : Hid (k = n) := (show k = n by omega)
      have Hv : Hid (val R - c * pw n = val X - val (Y.take n)) := by
        have h := HR.out
        rw [Hk.out, List.take_of_length_le (l := X) (by rw [HXl.out]; omega)] at h
        exact h
      have Hl : Hid (R.length = n) := (show _ = _ by rw [hRl, Hk.out])
      have hb3 : Blk wr gz 43 ((M.take oz ++ R) ++ M.drop (oz + n)) := by rw [Hk.out] at hbk; exact hbk
      clear HR hbk hRl
      go_wp2
      go_end0
      exact ⟨rfl, R, c, hc0, hc1, Hl.out, hRw, Hv.out, hb3, hg⟩

/-- zzTrim. -/
theorem trim_any (a : Option Addr) (n c : Nat) (L : List Int) (w : World) (hL : In w a L) (hn : L.length = n) (hc : n ≤ c) (hca : a = none → c = 0) (hb : n ≤ 1048576) :
    Calls Try.prog 16 #[.slice a n c] w fun e w' => ∃ k, e = .returned (.slice a k c) ∧ k ≤ n ∧ val (L.take k) = val L ∧ Trimmed (L.take k) ∧ w' = w := by
  cases a with
  | none =>
    obtain rfl : c = 0 := hca rfl
    obtain rfl : n = 0 := by omega
    obtain rfl := List.eq_nil_of_length_eq_zero hn
    go_enter Try.func16, Try.ntmps16
    go_wp2
    go_loop [3] (fun t => t = .int .i64 0) (fun _ => 0)
    case atStart => rfl
    case round =>
      subst hrel
      have hd : decide ((0 : Int) < 0) = false := by decide
      go_wp2
      go_ret
      refine ⟨0, rfl, ?_⟩
      simp [Trimmed]
  | some ad =>
    clear hca
    have HL : Hid (L.length = n) := hn
    clear hn
    go_enter Try.func16, Try.ntmps16
    go_wp2
    go_loop [3] (fun t => ∃ k : Nat, k ≤ n ∧ t = .int .i64 k ∧ Hid (∀ j, k ≤ j → L.getD j 0 = 0)) (fun t => (intOf t).toNat)
    case atStart => exact ⟨n, Nat.le_refl _, rfl, fun j hj => by simp [List.getD, List.getElem?_eq_none (show L.length ≤ j by rw [HL.out]; exact hj)]⟩
    case round =>
      obtain ⟨k, hk, rfl, Hz⟩ := hrel
      by_cases h0 : 0 < k
      · obtain ⟨g, o, he, _, hcl⟩ := hL.2 (k - 1) (by rw [HL.out]; omega)
        obtain rfl := Option.some.inj he
        obtain ⟨x, hx⟩ : ∃ x, x = L.getD (k - 1) 0 := ⟨_, rfl⟩
        rw [← hx] at hcl
        have hk0 : (0 : Int) < (k : Int) := by omega
        by_cases hx0 : x = 0
        · have Hz2 : Hid (∀ j, k - 1 ≤ j → L.getD j 0 = 0) := by
            intro j hj
            by_cases hjk : k ≤ j
            · exact Hz.out j hjk
            · have : j = k - 1 := by omega
              rw [this, ← hx, hx0]
          clear hx Hz hL he
          subst hx0
          go_wp2
          go_round
          case rel => exact ⟨k - 1, by omega, by go_num, Hz2⟩
          case measure => simp [intOf]; omega
        · have hb : (x == 0) = false := by rw [beq_eq_false_iff_ne]; exact hx0
          have hv := val_take_trim (by rw [HL.out]; omega) Hz.out
          have ht : Trimmed (L.take k) := trimmed_take (by rw [HL.out]; omega) (.inr (by rw [← hx]; exact hx0))
          have Hv : Hid (val (L.take k) = val L) := hv
          clear hx Hz hL he hx0 hv
          go_wp2
          go_ret
          exact ⟨k, rfl, hk, Hv.out, ht, rfl⟩
      · obtain rfl : k = 0 := by omega
        have hv := val_take_trim (by omega) Hz.out
        have ht : Trimmed (L.take 0) := .inl rfl
        have Hv : Hid (val (L.take 0) = val L) := hv
        have hd : decide ((0 : Int) < 0) = false := by decide
        clear Hz hv h0
        go_wp2
        go_ret
        exact ⟨0, rfl, hk, Hv.out, ht, rfl⟩

set_option maxHeartbeats 400000 in
/-- cmpWords of two trimmed numbers: compares their values. -/
theorem cmpWords_any (a : Option Addr) (n c : Nat) (b : Option Addr) (m d : Nat) (no : Nat) (X Y : List Int) (w : World) (hX : Rd w a no X) (hXl : X.length = n) (hXw : AllW X) (tX : Trimmed X) (hY : Rd w b no Y) (hYl : Y.length = m) (hYw : AllW Y) (tY : Trimmed Y) (hb : n ≤ 1048576) (hb2 : m ≤ 1048576) :
    Calls Try.prog 35 #[.slice a n c, .slice b m d] w fun e w' => e = .returned (.int .i64 (cmpI (val X) (val Y))) ∧ w.grownBy w' none := by
  by_cases hnm : n = m
  · subst hnm
    have hne : ((n : Int) != (n : Int)) = false := by simp
    clear tX tY
    go_enter Try.func35, Try.ntmps35
    go_wp2
    go_loopw [5] (fun i wr => ∃ k : Nat, k ≤ n ∧ i = .int .i64 ((k : Int) - 1) ∧ Hid (X.drop k = Y.drop k) ∧ w.grownBy wr none) (fun i _ => (intOf i + 1).toNat)
    case atStart => exact ⟨n, Nat.le_refl _, rfl, (show _ = _ by rw [List.drop_of_length_le (by omega), List.drop_of_length_le (by omega)]), grownBy_refl _ _⟩
    case round =>
      obtain ⟨k, hk, rfl, Hk, hg⟩ := hrel
      by_cases h0 : 1 ≤ k
      · obtain ⟨i, rfl⟩ : ∃ i, k = i + 1 := ⟨k - 1, by omega⟩
        obtain ⟨gx, ox, he, _, hcx⟩ := hX.grown0 hg i (by omega)
        subst he
        obtain ⟨gy, oy, he, _, hcy⟩ := hY.grown0 hg i (by omega)
        subst he
        obtain ⟨x, hx⟩ : ∃ x, x = X.getD i 0 := ⟨_, rfl⟩
        obtain ⟨y, hy⟩ : ∃ y, y = Y.getD i 0 := ⟨_, rfl⟩
        rw [← hx] at hcx
        rw [← hy] at hcy
        have ei : ((i + 1 : Nat) : Int) - 1 = (i : Int) := by omega
        rw [ei]
        have hi0 : (0 : Int) ≤ (i : Int) := by omega
        have hin : (i : Int) < (n : Int) := by omega
        rcases Int.lt_trichotomy x y with hxy | hxy | hxy
        · have hr : cmpI (val X) (val Y) = -1 := cmpI_lt (lt_of_place hXw hYw hXl hYl (by omega) Hk.out (by rw [← hx, ← hy]; exact hxy))
          have hne2 : (x != y) = true := by rw [bne_iff_ne]; omega
          clear Hk hx hy hX hY hXl hYl
          go_wp2
          go_quiet (fail)
          go_wp2
          go_quiet (fail)
          go_wp2
          go_ret
          exact ⟨by first | rfl | (rw [hr]; rfl), by first | exact grownBy_drewN hg _ | exact grownBy_drewN (grownBy_drewN hg _) _⟩
        · have H2 : Hid (X.drop i = Y.drop i) := by
            show _ = _
            rw [List.drop_eq_getElem_cons (show i < X.length by omega), List.drop_eq_getElem_cons (show i < Y.length by omega), Hk.out, ← getD_of_lt X i (by omega), ← getD_of_lt Y i (by omega), ← hx, ← hy, hxy]
          have hne2 : (x != y) = false := by simp [hxy]
          clear Hk hx hy hX hY hXl hYl hxy
          go_wp2
          go_quiet (fail)
          go_wp2
          go_roundw
          case rel => exact ⟨i, by omega, rfl, H2, grownBy_drewN hg _⟩
          case measure => simp [intOf]
        · have hr : cmpI (val X) (val Y) = 1 := cmpI_gt (lt_of_place hYw hXw hYl hXl (by omega) Hk.out.symm (by rw [← hx, ← hy]; exact hxy))
          have hne2 : (x != y) = true := by rw [bne_iff_ne]; omega
          have hnl : ¬ x < y := by omega
          clear Hk hx hy hX hY hXl hYl
          go_wp2
          go_quiet (fail)
          go_wp2
          go_quiet (fail)
          go_wp2
          go_ret
          exact ⟨by first | rfl | (rw [hr]; rfl), by first | exact grownBy_drewN hg _ | exact grownBy_drewN (grownBy_drewN hg _) _⟩
      · obtain rfl : k = 0 := by omega
        have hr : cmpI (val X) (val Y) = 0 := by
          have := Hk.out
          rw [List.drop_zero, List.drop_zero] at this
          rw [this, cmpI_eq]
        clear Hk h0
        go_wp2
        go_ret
        exact ⟨by first | rfl | (rw [hr]; rfl), hg⟩
  · have hne : ((n : Int) != (m : Int)) = true := by rw [bne_iff_ne]; omega
    by_cases hlt : n < m
    · have hr : cmpI (val X) (val Y) = -1 := cmpI_lt (lt_of_shorter hXw hYw tY (by omega))
      have hl2 : (n : Int) < (m : Int) := by omega
      go_enter Try.func35, Try.ntmps35
      go_wp2
      go_ret
      exact ⟨by first | rfl | (rw [hr]; rfl), grownBy_refl _ _⟩
    · have hr : cmpI (val X) (val Y) = 1 := cmpI_gt (lt_of_shorter hYw hXw tX (by omega))
      have hl2 : ¬ (n : Int) < (m : Int) := by omega
      go_enter Try.func35, Try.ntmps35
      go_wp2
      go_ret
      exact ⟨by first | rfl | (rw [hr]; rfl), grownBy_refl _ _⟩
end Go.Proofs.Qxb6003414a

/-
  THE WALKS of quoWord and ZZquoWord.
-/
import Derived.Test.Qxb6003414aRecipZZ
namespace Go.Proofs.Qxb6003414a
open Go Go.RowKit
set_option linter.unusedSimpArgs false

/-- One digit of the long division by a word. -/
theorem quoW_step {T Q : List Int} {n rem out u : Int} {i m : Nat} (hi : i < T.length) (hu : u = T.getD i 0)
    (h : val Q * n + rem = out * pw m + val (T.drop (i + 1))) :
    val ((rem * 18446744073709551616 + u) / n :: Q) * n + (rem * 18446744073709551616 + u) % n = out * pw (m + 1) + val (T.drop i) := by
  have e := Int.emod_add_mul_ediv (rem * 18446744073709551616 + u) n
  rw [val_cons, val_drop_succ T i hi, ← hu, pw_succ]
  generalize (rem * 18446744073709551616 + u) / n = q at *
  generalize (rem * 18446744073709551616 + u) % n = r at *
  have hb : B * (val Q * n + rem) = B * (out * pw m + val (T.drop (i + 1))) := by rw [h]
  rw [← B_eq] at e
  simp only [Int.mul_add, Int.add_mul, Int.mul_assoc, Int.mul_comm, Int.mul_left_comm] at e hb ⊢
  omega
theorem quoW_word {n rem u : Int} (hn : 0 < n) (hn1 : n < 18446744073709551616) (h0 : 0 ≤ rem) (h1 : rem < n) (hu : W64 u) :
    W64 ((rem * 18446744073709551616 + u) / n) ∧ 0 ≤ (rem * 18446744073709551616 + u) % n ∧ (rem * 18446744073709551616 + u) % n < n := by
  unfold W64 at hu
  refine ⟨⟨Int.ediv_nonneg (by omega) (by omega), Int.ediv_lt_of_lt_mul hn (by omega)⟩, Int.emod_nonneg _ (by omega), Int.emod_lt_of_pos _ hn⟩
theorem row_back_get (Z Q : List Int) (i j : Nat) (hi : i < Z.length) (hj : j ≤ i) : (Z.take (i + 1) ++ Q).getD j 0 = Z.getD j 0 := by
  simp only [List.getD]
  rw [List.getElem?_append_left (by simp; omega)]
  simp [show j < i + 1 by omega]
theorem row_back_set (Z Q : List Int) (i : Nat) (q : Int) (hi : i < Z.length) : (Z.take (i + 1) ++ Q).set i q = Z.take i ++ (q :: Q) := by
  have h1 : (Z.take i).length = i := by simp; omega
  rw [List.take_succ_eq_append_getElem hi, List.append_assoc, List.set_append, if_neg (by omega), h1, Nat.sub_self, List.singleton_append, List.set_cons_zero]

set_option maxHeartbeats 2000000 in
/-- quoWord. -/
theorem quoWord_any (gz len cz : Nat) (Z : List Int) (n v : Int) (s : Nat) (w : World) (hz : Blk w gz 43 Z) (hZl : Z.length = len) (hZw : AllW Z) (hlen : 1 ≤ len) (hb : len ≤ 1048576) (R : Recip n v) (hs : s ≤ 63) :
    Calls Try.prog 42 #[.slice (some ⟨gz, 0, none⟩) len cz, .agg #[.int .u64 n, .int .u64 v, .int .u64 s]] w fun e w' => ∃ Q rem, e = .returned (.int .u64 (rem / P2 s)) ∧ Q.length = len ∧ AllW Q ∧ 0 ≤ rem ∧ rem < n ∧ val Q * n + rem = P2 s * val Z ∧ Blk w' gz 43 Q ∧ w.grownBy w' (some gz) := by
  have nlo := R.lo
  have nhi := R.hi
  have HZl : Hid (Z.length = len) := hZl
  have gl := hz.lt
  obtain ⟨T, hT⟩ : ∃ T, T = shlL s 0 Z := ⟨_, rfl⟩
  have HT : Hid (T = shlL s 0 Z) := hT
  have HTl : Hid (T.length = len) := (show _ = _ by rw [hT, shlL_len, hZl])
  have hTw : AllW T := by rw [hT]; exact shlL_w s (by omega) W64.zero hZw
  obtain ⟨out, hout⟩ : ∃ out, out = lastOf 0 Z / P2 (64 - s) := ⟨_, rfl⟩
  have HTv : Hid (val T + out * pw len = P2 s * val Z) := by
    have := shlL_val s (by omega) 0 Z
    rw [Int.zero_ediv, Int.add_zero, ← hT, ← hout, hZl] at this
    exact this
  have hlast : lastOf 0 Z = Z.getD (len - 1) 0 := by rw [lastOf_eq 0 Z (by omega), hZl]
  have hlw : W64 (lastOf 0 Z) := by rw [hlast]; exact hZw.getD _
  have ho := shr_lt hlw s (by omega)
  rw [← hout] at ho
  have hp2 := P2_le s hs
  have hct := (hz.alloc (.cells #[.int .u64 n, .int .u64 v, .int .u64 (s : Int)] 52)).cell (len - 1) (by omega)
  have hbox : Blk (w.alloc (.cells #[.int .u64 n, .int .u64 v, .int .u64 (s : Int)] 52)) w.heap.size 52 [n, v, s] := heap_alloc_new w _
  have kb2 := hbox.cell 2 (by simp)
  obtain ⟨t, ht⟩ : ∃ t, t = Z.getD (len - 1) 0 := ⟨_, rfl⟩
  rw [← ht] at hct
  have Hout : Hid (t / 2 ^ (64 - s) = out) := (show _ = _ by rw [hout, hlast, ht]; rfl)
  have hl0 : (0 : Int) ≤ (len : Int) - 1 := by omega
  have hl1 : (len : Int) - 1 < (len : Int) := by omega
  clear hT hout hlast hlw ht hZl
  go_enter Try.func42, Try.ntmps42
  go_wp2
  go_quiet (fail)
  go_wp2
  clear hct kb2
  go_loopw [5, 6] (fun a b wr => ∃ (k : Nat) (rem : Int) (Q : List Int), k ≤ len ∧ a = .int .u64 rem ∧ b = .int .i64 ((k : Int) - 1) ∧ 0 ≤ rem ∧ rem < n ∧ Q.length = len - k ∧ AllW Q ∧ Hid (val Q * n + rem = out * pw (len - k) + val (T.drop k)) ∧ Blk wr gz 43 (Z.take k ++ Q) ∧ (w.alloc (.cells #[.int .u64 n, .int .u64 v, .int .u64 (s : Int)] 52)).grownBy wr (some gz)) (fun _ b _ => (intOf b + 1).toNat)
  case atStart =>
    refine ⟨len, out, [], Nat.le_refl _, by rw [Hout.out], rfl, ho.1, by omega, by simp, AllW.nil, ?_, ?_, grownBy_drewN (grownBy_refl _ _) _⟩
    · show _ = _
      rw [Nat.sub_self, pw_zero, List.drop_of_length_le (by rw [HTl.out]; omega), val_nil]; simp
    · rw [List.take_of_length_le (by rw [HZl.out]; omega), List.append_nil]
      exact (hz.alloc _).drewN _
  case round =>
    obtain ⟨k, rem, Q, hk, rfl, rfl, hr0, hr1, hQl, hQw, HQ, hbk, hg⟩ := hrel
    by_cases hk0 : 1 ≤ k
    · obtain ⟨i, rfl⟩ : ∃ i, k = i + 1 := ⟨k - 1, by omega⟩
      have ei : ((i + 1 : Nat) : Int) - 1 = (i : Int) := by omega
      rw [ei]
      have hbb := hbox.grown' hg (by omega)
      have hi0 : (0 : Int) ≤ (i : Int) := by omega
      have hil : (i : Int) < (len : Int) := by omega
      have hcl : (Z.take (i + 1) ++ Q).length = len := by have := HZl.out; simp; omega
      obtain ⟨z, hz1⟩ : ∃ z, z = Z.getD i 0 := ⟨_, rfl⟩
      have hcz : wr.cell? ⟨gz, i, none⟩ = some (.int .u64 z) := by
        have := hbk.cell i (by omega)
        rw [row_back_get Z Q i i (by rw [HZl.out]; omega) (Nat.le_refl _), ← hz1] at this
        exact this
      have kb0 := hbb.cell 0 (by simp)
      have kb1 := hbb.cell 1 (by simp)
      have kb2 := hbb.cell 2 (by simp)
      have hTi := shlL_getD s 0 Z i (by rw [HZl.out]; omega)
      rw [← HT.out, ← hz1] at hTi
      obtain ⟨u, hu⟩ : ∃ u, u = T.getD i 0 := ⟨_, rfl⟩
      have huw : W64 u := by rw [hu]; exact hTw.getD _
      have hstep := quoW_step (by rw [HTl.out]; omega) hu HQ.out
      obtain ⟨f1, f2, f3⟩ := quoW_word (u := u) (by omega) nhi hr0 hr1 huw
      rw [← hu] at hTi
      obtain ⟨q, hq⟩ : ∃ q, q = (rem * 18446744073709551616 + u) / n := ⟨_, rfl⟩
      obtain ⟨r', hr'⟩ : ∃ r', r' = (rem * 18446744073709551616 + u) % n := ⟨_, rfl⟩
      rw [← hq, ← hr'] at hstep
      rw [← hq] at f1
      rw [← hr'] at f2 f3
      have el : len - (i + 1) + 1 = len - i := by omega
      rw [el] at hstep
      have Hstep : Hid (val (q :: Q) * n + r' = out * pw (len - i) + val (T.drop i)) := hstep
      have Hbk : Hid (Blk wr gz 43 (Z.take (i + 1) ++ Q)) := hbk
      have Hq : Hid (q = (rem * 18446744073709551616 + u) / n ∧ r' = (rem * 18446744073709551616 + u) % n) := ⟨hq, hr'⟩
      have HQl : Hid ((q :: Q).length = len - i) := (show _ = _ by rw [List.length_cons, hQl]; omega)
      have hQw2 := AllW.cons f1 hQw
      clear hstep hq hr' hu HQ hQl hQw
      by_cases hlt : 0 < i
      · obtain ⟨p, hp⟩ : ∃ p, p = Z.getD (i - 1) 0 := ⟨_, rfl⟩
        have hcp : wr.cell? ⟨gz, i - 1, none⟩ = some (.int .u64 p) := by
          have := hbk.cell (i - 1) (by omega)
          rw [row_back_get Z Q i (i - 1) (by rw [HZl.out]; omega) (by omega), ← hp] at this
          exact this
        have hpw : W64 p := by rw [hp]; exact hZw.getD _
        rw [if_neg (by omega), ← hp] at hTi
        have eor := or_shl (x := z) (s := s) hpw (by omega)
        rw [← hTi] at eor
        have hi1 : (0 : Int) < (i : Int) := by omega
        have hi2 : (0 : Int) ≤ (i : Int) - 1 := by omega
        have hi3 : (i : Int) - 1 < (len : Int) := by omega
        clear hz1 hp hTi hcl hbk
        go_wp2
        go_quiet (fail)
        go_wp2
        go_quiet (fail)
        go_wp2_with fail
        refine (quo_any n v rem u s _ R hr0 hr1 huw).mono ?_
        rintro e w2 ⟨rfl, g2⟩
        rw [← Hq.out.1, ← Hq.out.2]
        have hb2 := (Hbk.out.drewN _).grown0 g2
        have hf2 := hb2.frozen i
        have hc2 := hb2.cell i (by have := HZl.out; simp; omega)
        generalize (Z.take (i + 1) ++ Q).getD i 0 = old at hc2
        have hset := hb2.set i q
        rw [row_back_set Z Q i q (by rw [HZl.out]; omega)] at hset
        have hgn := grownBy_set (i := i) (v := .int .u64 q) (grownBy_trans (grownBy_drewN hg _) (grownBy_weak g2))
        clear hb2 g2 hcz hcp eor
        go_wp2
        go_roundw
        case rel => exact ⟨i, _, _, by omega, rfl, rfl, f2, f3, HQl.out, hQw2, Hstep, hset, hgn⟩
        case measure => simp [intOf]
      · obtain rfl : i = 0 := by omega
        rw [if_pos rfl] at hTi
        have eor := shl_low (x := z) (s := s) (by omega)
        rw [← hTi] at eor
        have hd0 : decide ((0 : Int) < 0) = false := by decide
        clear hz1 hTi hcl hbk hlt ei hi0
        go_wp2
        go_quiet (fail)
        go_wp2_with fail
        refine (quo_any n v rem u s _ R hr0 hr1 huw).mono ?_
        rintro e w2 ⟨rfl, g2⟩
        rw [← Hq.out.1, ← Hq.out.2]
        have hb2 := (Hbk.out.drewN _).grown0 g2
        have hf2 := hb2.frozen 0
        have hc2 := hb2.cell 0 (by have := HZl.out; simp; omega)
        generalize (Z.take (0 + 1) ++ Q).getD 0 0 = old at hc2
        have hset := hb2.set 0 q
        rw [row_back_set Z Q 0 q (by rw [HZl.out]; omega)] at hset
        have hgn := grownBy_set (i := 0) (v := .int .u64 q) (grownBy_trans (grownBy_drewN hg _) (grownBy_weak g2))
        clear hb2 g2 hcz eor
        go_wp2
        go_roundw
        case rel => exact ⟨0, _, _, by omega, rfl, rfl, f2, f3, HQl.out, hQw2, Hstep, hset, hgn⟩
        case measure => simp [intOf]
    · obtain rfl : k = 0 := by omega
      have hQ0 := HQ.out
      rw [List.drop_zero, Nat.sub_zero] at hQ0
      have Hfin : Hid (val Q * n + rem = P2 s * val Z) := (show _ = _ by rw [hQ0, ← HTv.out]; omega)
      have hbb := hbox.grown' hg (by omega)
      have kb2 := hbb.cell 2 (by simp)
      have gF : w.grownBy wr (some gz) := grownBy_trans (World.grownBy_alloc w _ _) hg
      rw [List.take_zero, List.nil_append] at hbk
      rw [Nat.sub_zero] at hQl
      have HQl : Hid (Q.length = len) := hQl
      clear hQ0 HQ hQl hbb hk0 hk
      go_wp2
      go_ret
      exact ⟨Q, rem, rfl, HQl.out, hQw, hr0, hr1, Hfin.out, hbk, gF⟩

theorem unshift {q d P r z : Int} (hP : 0 < P) (h0 : 0 ≤ r) (h1 : r < d * P) (h : q * (d * P) + r = P * z) : 0 ≤ r / P ∧ r / P < d ∧ q * d + r / P = z := by
  have e : r = P * (z - q * d) := by
    rw [Int.mul_sub]
    have : q * (d * P) = P * (q * d) := by rw [← Int.mul_assoc, Int.mul_comm]
    omega
  have e2 : r / P = z - q * d := by rw [e, Int.mul_ediv_cancel_left _ (by omega)]
  refine ⟨Int.ediv_nonneg h0 (by omega), Int.ediv_lt_of_lt_mul hP h1, by rw [e2]; omega⟩

set_option maxHeartbeats 400000 in
/-- ZZquoWord. -/
theorem zzquoWord_any (gz len cz : Nat) (Z : List Int) (d : Int) (w : World) (hz : Blk w gz 25 Z) (hZl : Z.length = len) (hZw : AllW Z) (hlen : 1 ≤ len) (hb : len ≤ 1048576) (hd : W64 d) (hd0 : d ≠ 0) :
    Calls Try.prog 28 #[.slice (some ⟨gz, 0, none⟩) len cz, .int .u64 d] w fun e w' => ∃ Q r, e = .returned (.int .u64 r) ∧ Q.length = len ∧ AllW Q ∧ 0 ≤ r ∧ r < d ∧ val Q * d + r = val Z ∧ Blk w' gz 25 Q ∧ w.grownBy w' (some gz) := by
  have HZl : Hid (Z.length = len) := hZl
  clear hZl
  have hzl := hz.lt
  have R := recip_d hd hd0
  have hs := (lzs_facts hd hd0).1
  go_enter Try.func28, Try.ntmps28
  go_wp2_with fail
  refine (toWords_blk gz len cz 25 Z _ hz HZl.out hb).mono ?_
  rintro e w1 ⟨g, rfl, hg, hbg, hg1⟩
  go_wp2_with fail
  refine (recipOf_any d _ hd hd0).mono ?_
  rintro e w2 ⟨rfl, hg2⟩
  go_wp2_with fail
  have l1 := hbg.lt
  have s1 := hg1.size
  have s2 := hg2.size
  refine (quoWord_any g len len Z (normOf d) (recOf d) (lzs d) _ (hbg.grown0 hg2) HZl.out hZw hlen hb R hs).mono ?_
  rintro e w3 ⟨Q, rem, rfl, hQl, hQw, hr0, hr1, hv, hbQ, hg3⟩
  obtain ⟨f1, f2, f3⟩ := unshift (P2_pos (lzs d)) hr0 hr1 hv
  generalize rem / P2 (lzs d) = r at f1 f2 f3 ⊢
  have HQl : Hid (Q.length = len) := hQl
  have Hv : Hid (val Q * d + r = val Z) := f3
  clear hQl hv f3 hr0 hr1
  go_wp2_with fail
  refine (store_any gz len cz (some ⟨g, 0, none⟩) len Z Q _ (((hz.grown0 hg1).grown0 hg2).grown' hg3 (by omega)) HZl.out (Rd.of_blk hbQ (by omega)) HQl.out hb).mono ?_
  rintro e w4 ⟨rfl, hb4, hg4⟩
  go_wp2
  go_ret
  exact ⟨Q, r, rfl, HQl.out, hQw, f1, f2, Hv.out, hb4, grownBy_trans (grownBy_weak (grownBy_then (grownBy_then0 hg1 hg2) hg3 (by omega))) hg4⟩
end Go.Proofs.Qxb6003414a

/-
  THE WALK OF THE LAW FnQuoLongDivides.
-/
import Derived.Test.Qxb6003414aQuoLZZ
import Derived.Test.Qxb6003414aLawQuoW
namespace Go.Proofs.Qxb6003414a
open Go Go.RowKit

/-- ZZquoLong, told by the divisor's length. -/
theorem zzquoLong_n (gq lq cq gu m cu gw n cw : Nat) (Q0 X Dv : List Int) (x0 : Int) (s : Nat) (top v ts : Int) (w : World)
    (hq : Blk w gq 25 Q0) (hQl : Q0.length = lq) (hu : Blk w gu 25 (X ++ [x0])) (hXl : X.length = m) (hXw : AllW X)
    (hw : Blk w gw 25 Dv) (hDl : Dv.length = n) (hn : 2 ≤ n) (hDw : AllW Dv) (hm : m + 1 = lq + n) (hlq : 1 ≤ lq) (hb : m ≤ 1048575)
    (htop : Dv.getD (n - 1) 0 = top) (R : Recip top v) (hs : s ≤ 63) (d1 : gq ≠ gu) :
    Calls Try.prog 30 #[.slice (some ⟨gq, 0, none⟩) lq cq, .slice (some ⟨gu, 0, none⟩) (m + 1) cu, .slice (some ⟨gw, 0, none⟩) n cw, .int .u64 s, .int .u64 top, .int .u64 v, .int .u64 ts] w fun e w' => e = .returned (.tuple #[]) ∧
      ∃ Q U, Q.length = lq ∧ AllW Q ∧ U.length = m + 1 ∧ AllW U ∧ val U < val Dv ∧ val Q * val Dv + val U = P2 s * val X ∧ Blk w' gq 25 Q ∧ Blk w' gu 25 U ∧ Gr2 gu gq w w' := by
  obtain ⟨k, rfl⟩ : ∃ k, n = k + 2 := ⟨n - 2, by omega⟩
  exact zzquoLong_any gq lq cq gu m cu gw k cw Q0 X Dv x0 s top v ts w hq hQl hu hXl hXw hw hDl hDw hm hlq hb htop R hs d1

/-- A word with its top bit set needs no shift. -/
theorem norm_top {t : Int} (h : W64 t) (ht : 9223372036854775808 ≤ t) : lzs t = 0 ∧ normOf t = t := by
  obtain ⟨f1, f2, f3⟩ := lzs_facts h (by omega)
  have e : lzs t = 0 := by
    rcases Nat.eq_zero_or_pos (lzs t) with h0 | h0
    · exact h0
    · exfalso
      obtain ⟨k, hk⟩ : ∃ k, lzs t = k + 1 := ⟨lzs t - 1, by omega⟩
      unfold normOf at f3
      rw [hk, P2_succ, ← Int.mul_assoc] at f3
      have h1 : t * 1 ≤ t * P2 k := Int.mul_le_mul_of_nonneg_left (P2_pos k) (by omega)
      omega
  exact ⟨e, by unfold normOf; rw [e, P2_zero, Int.mul_one]⟩

/-- The divisor shifted up until its top bit is set. -/
theorem norm_words {Dv : List Int} {n : Nat} {top : Int} (hl : Dv.length = n) (hn : 2 ≤ n) (hw : AllW Dv) (ht : top = Dv.getD (n - 1) 0) (h0 : top ≠ 0) :
    lastOf 0 Dv / P2 (64 - lzs top) = 0 ∧ val (shlL (lzs top) 0 Dv) = P2 (lzs top) * val Dv ∧ W64 ((shlL (lzs top) 0 Dv).getD (n - 1) 0) ∧ 9223372036854775808 ≤ (shlL (lzs top) 0 Dv).getD (n - 1) 0 := by
  have htw : W64 top := by rw [ht]; exact hw.getD _
  obtain ⟨f1, f2, f3⟩ := lzs_facts htw h0
  have e1 : lastOf 0 Dv = top := by rw [lastOf_eq 0 Dv (by omega), hl, ht]
  have hlt : top < P2 (64 - lzs top) := by
    unfold normOf at f3
    have h1 := P2_mul (lzs top) (by omega)
    have h2 := P2_pos (lzs top)
    refine Int.lt_of_mul_lt_mul_right (a := P2 (lzs top)) ?_ (by omega)
    rw [Int.mul_comm (P2 (64 - lzs top))]
    rw [B_eq] at h1
    omega
  have ht0 := htw.1
  have e2 : lastOf 0 Dv / P2 (64 - lzs top) = 0 := by rw [e1]; exact Int.ediv_eq_zero_of_lt ht0 hlt
  have hv := shlL_val (lzs top) (by omega) 0 Dv
  rw [e2, Int.zero_mul, Int.add_zero, Int.zero_ediv, Int.add_zero] at hv
  have hS := shlL_w (lzs top) (by omega) W64.zero hw
  refine ⟨e2, hv, hS.getD _, ?_⟩
  rw [shlL_getD _ _ _ _ (by omega), if_neg (by omega), ← ht]
  have hp := shr_lt (hw.getD (n - 1 - 1)) (lzs top) (by omega)
  unfold shlD
  rw [Int.emod_eq_of_lt ht0 hlt]
  unfold normOf at f2
  rw [Int.mul_comm] at f2
  omega

set_option maxHeartbeats 1000000 in
theorem lawQuoL_skip (a0 : Option Addr) (m c0 : Nat) (a1 : Option Addr) (n c1 : Nat) (Dv : List Int) (w : World) (hin1 : In w a1 Dv) (hl1 : Dv.length = n) (h : 64 < m ∨ 32 < n ∨ n < 2 ∨ m < n ∨ Dv.getD (n - 1) 0 = 0) :
    Calls Try.prog 9 #[.slice a0 m c0, .slice a1 n c1] w fun e w' => e = .returned (.bool true) ∧ w.grownBy w' none := by
  have HDl : Hid (Dv.length = n) := hl1
  clear hl1
  by_cases h1 : 64 < m
  · have d0 : decide ((64 : Int) < (m : Int)) = true := decide_eq_true (by omega)
    clear h
    go_enter Try.func9, Try.ntmps9
    go_wp2
    all_goals (go_ret; exact ⟨rfl, grownBy_refl _ _⟩)
  · have d0 : decide ((64 : Int) < (m : Int)) = false := decide_eq_false (by omega)
    by_cases h2 : 32 < n
    · have d1 : decide ((32 : Int) < (n : Int)) = true := decide_eq_true (by omega)
      clear h
      go_enter Try.func9, Try.ntmps9
      go_wp2
      all_goals (go_ret; exact ⟨rfl, grownBy_refl _ _⟩)
    · have d1 : decide ((32 : Int) < (n : Int)) = false := decide_eq_false (by omega)
      by_cases h3 : n < 2
      · have d2 : decide ((n : Int) < (2 : Int)) = true := decide_eq_true (by omega)
        clear h
        go_enter Try.func9, Try.ntmps9
        go_wp2
        all_goals (go_ret; exact ⟨rfl, grownBy_refl _ _⟩)
      · have d2 : decide ((n : Int) < (2 : Int)) = false := decide_eq_false (by omega)
        obtain ⟨g, o, rfl, hg, hc⟩ := hin1.2 (n - 1) (by rw [HDl.out]; omega)
        obtain ⟨top, ht⟩ : ∃ top, top = Dv.getD (n - 1) 0 := ⟨_, rfl⟩
        rw [← ht] at hc h
        have hi0 : (0 : Int) ≤ (n : Int) - 1 := by omega
        have hi1 : (n : Int) - 1 < (n : Int) := by omega
        clear ht
        by_cases h4 : top = 0
        · subst h4
          clear h
          go_enter Try.func9, Try.ntmps9
          go_wp2
          all_goals (go_ret; exact ⟨rfl, grownBy_refl _ _⟩)
        · have d3 : (top == 0) = false := by rw [beq_eq_false_iff_ne]; exact h4
          have h5 : m < n := by omega
          clear h
          go_enter Try.func9, Try.ntmps9
          go_wp2
          all_goals (go_ret; exact ⟨rfl, grownBy_refl _ _⟩)

set_option maxHeartbeats 2000000 in
theorem lawQuoL_main (a0 : Option Addr) (m c0 : Nat) (a1 : Option Addr) (n c1 : Nat) (X Dv : List Int) (top : Int) (w : World) (hin0 : In w a0 X) (hl0 : X.length = m) (hw0 : AllW X)
    (hin1 : In w a1 Dv) (hl1 : Dv.length = n) (hw1 : AllW Dv) (hm64 : m ≤ 64) (hn32 : n ≤ 32) (hn2 : 2 ≤ n) (hnm : n ≤ m) (htop : top = Dv.getD (n - 1) 0) (ht0 : top ≠ 0) :
    Calls Try.prog 9 #[.slice a0 m c0, .slice a1 n c1] w fun e w' => e = .returned (.bool true) ∧ w.grownBy w' none := by
  have HXl : Hid (X.length = m) := hl0
  have HDl : Hid (Dv.length = n) := hl1
  have neX : X ≠ [] := fun e => by rw [e] at hl0; simp at hl0; omega
  have neD : Dv ≠ [] := fun e => by rw [e] at hl1; simp at hl1; omega
  have htw : W64 top := by rw [htop]; exact hw1.getD _
  obtain ⟨hs63, _, _⟩ := lzs_facts htw ht0
  obtain ⟨f1, f2, f3, f4⟩ := norm_words hl1 hn2 hw1 htop ht0
  obtain ⟨s, hs⟩ : ∃ s, s = lzs top := ⟨_, rfl⟩
  rw [← hs] at f1 f2 f3 f4 hs63
  obtain ⟨T, hT⟩ : ∃ T, T = shlL s 0 Dv := ⟨_, rfl⟩
  rw [← hT] at f2 f3 f4
  obtain ⟨t, ht⟩ : ∃ t, t = T.getD (n - 1) 0 := ⟨_, rfl⟩
  rw [← ht] at f3 f4
  have hTw : AllW T := by rw [hT]; exact shlL_w s (by omega) W64.zero hw1
  have HTl : Hid (T.length = n) := (show _ = _ by rw [hT, shlL_len, hl1])
  have Hs : Hid (s = lzs top) := hs
  have HT : Hid (T = shlL s 0 Dv) := hT
  have Hf1 : Hid (lastOf 0 Dv / P2 (64 - s) = 0) := f1
  have Hf2 : Hid (val T = P2 s * val Dv) := f2
  have Ht : Hid (t = T.getD (n - 1) 0) := ht
  have Htop : Hid (top = Dv.getD (n - 1) 0) := htop
  have Hnt : Hid (lzs t = 0 ∧ normOf t = t) := norm_top f3 f4
  have htt0 : t ≠ 0 := by omega
  have R := recip_d f3 htt0
  rw [Hnt.out.2] at R
  have d0 : decide ((64 : Int) < (m : Int)) = false := decide_eq_false (by omega)
  have d1 : decide ((32 : Int) < (n : Int)) = false := decide_eq_false (by omega)
  have d2 : decide ((n : Int) < (2 : Int)) = false := decide_eq_false (by omega)
  have d3 : (top == 0) = false := by rw [beq_eq_false_iff_ne]; exact ht0
  obtain ⟨g, o, rfl, hg, hc⟩ := hin1.2 (n - 1) (by omega)
  rw [← htop] at hc
  have hi0 : (0 : Int) ≤ (n : Int) - 1 := by omega
  have hi1 : (n : Int) - 1 < (n : Int) := by omega
  obtain ⟨lq, hlq⟩ : ∃ lq, m + 1 = lq + n := ⟨m + 1 - n, by omega⟩
  have Hlq : Hid (m + 1 = lq + n) := hlq
  have hlq1 : 1 ≤ lq := by omega
  clear hl0 hl1 hs hT f1 f2 ht htop hlq
  go_enter Try.func9, Try.ntmps9
  go_wp2_with fail
  refine (bytes29 _ _ _ _ _ _ _ (by omega) (by omega)).mono ?_
  rintro e w' ⟨rfl, hw⟩
  rw [hw]
  clear hw w'
  go_wp2_with fail
  refine (clone_in a0 m c0 X _ hin0 HXl.out (by omega)).mono ?_
  rintro e wa ⟨b0, rfl, hO, ga⟩
  obtain ⟨gx, rfl, hgx, hx⟩ := hO.blk neX
  have sa := ga.size
  have lx := hx.lt
  replace hin1 := hin1.grown0 ga
  have gB := ga
  clear hin0 hO ga hc
  go_wp2_with fail
  refine (clone_in _ n c1 Dv _ hin1 HDl.out (by omega)).mono ?_
  rintro e wb ⟨b1, rfl, hO, gb⟩
  obtain ⟨gd, rfl, hgd, hd⟩ := hO.blk neD
  have sb := gb.size
  have ld := hd.lt
  replace hx := hx.grown0 gb
  replace gB := grownBy_then0 gB gb
  have hc := hd.cell (n - 1) (by rw [HDl.out]; omega)
  rw [← Htop.out] at hc
  clear hin1 hO gb
  go_wp2_with fail
  refine (normShift_any top _ htw ht0).mono ?_
  rintro e w' ⟨rfl, hw⟩
  rw [hw, ← Hs.out]
  clear hw w' hc
  generalize normOf top = nt
  go_wp2_with (at_make; refine wpList_mk rfl (.tmp 67) (.tmp 67) 22 rfl 25 Try.underlying22 info25 _ n rfl rfl rfl (by omega) ?_)
  intro wc hT0 gc
  have sc := gc.size
  have lT := hT0.lt
  replace hx := hx.grown0 gc
  replace hd := hd.grown0 gc
  replace gB := grownBy_then0 gB gc
  clear gc
  go_wp2_with fail
  refine (zzshl_any wb.heap.size n n (some ⟨gd, 0, none⟩) n _ Dv s _ hT0 (by simp) hd.inn HDl.out hw1 hs63 (by omega)).mono ?_
  rintro e we ⟨rfl, hTb, ge⟩
  rw [Hf1.out]
  rw [← HT.out] at hTb
  have se := ge.size
  replace hx := hx.grown' ge (by omega)
  replace hd := hd.grown' ge (by omega)
  replace gB := grownBy_then gB ge (by omega)
  have hc := hTb.cell (n - 1) (by rw [HTl.out]; omega)
  rw [← Ht.out] at hc
  clear ge hT0
  go_wp2_with fail
  refine (zzrecip_any t _ f3 htt0).mono ?_
  rintro e wf ⟨rfl, gf⟩
  rw [Hnt.out.1, Hnt.out.2]
  generalize recOf t = v at R ⊢
  have sf := gf.size
  replace hx := hx.grown0 gf
  replace hd := hd.grown0 gf
  replace hTb := hTb.grown0 gf
  replace gB := grownBy_then0 gB gf
  clear gf hc
  go_wp2_with (at_make; refine wpList_mk rfl (.tmp 85) (.tmp 85) 22 rfl 25 Try.underlying22 info25 _ (m + 1) rfl rfl rfl (by omega) ?_)
  intro wg hu0 gg
  obtain ⟨wh, hr, hu, gh⟩ := run_cp (P := Try.prog) 22 22 3 25 Try.underlying22 size25 wf.heap.size (some ⟨gx, 0, none⟩) (m + 1) (m + 1) m m 25 _ hu0 (List.length_replicate) _ X (hx.grown0 gg).inn.2 HXl.out
  rw [cp_ext HXl.out] at hu
  have sg := gg.size
  have sh := gh.size
  have lu := hu0.lt
  replace hx := (hx.grown0 gg).grown' gh (by omega)
  replace hd := (hd.grown0 gg).grown' gh (by omega)
  replace hTb := (hTb.grown0 gg).grown' gh (by omega)
  replace gB := grownBy_then (grownBy_then0 gB gg) gh (by omega)
  clear gg gh hu0
  go_wp2_with (at_make; refine wpList_mk rfl (.tmp 93) (.tmp 93) 22 rfl 25 Try.underlying22 info25 _ lq rfl rfl (by have := Hlq.out; omega) (by have := Hlq.out; omega) ?_)
  intro wi hq0 gi
  clear hr
  have si := gi.size
  have lq0 := hq0.lt
  replace hx := hx.grown0 gi
  replace hd := hd.grown0 gi
  replace hTb := hTb.grown0 gi
  replace hu := hu.grown0 gi
  replace gB := grownBy_then0 gB gi
  clear gi
  go_wp2_with fail
  refine (zzquoLong_n wh.heap.size lq lq wf.heap.size m (m + 1) wb.heap.size n n _ X T 0 s t v _ _ hq0 (by simp) hu HXl.out hw0 hTb HTl.out hn2 hTw Hlq.out hlq1 (by omega) Ht.out.symm R hs63 (by omega)).mono ?_
  rintro e wj ⟨rfl, Q, U, hQl, hQw, hUl, hUw, hUlt, hv, hq, hu2, gj⟩
  have HQl : Hid (Q.length = lq) := hQl
  have HUl : Hid (U.length = m + 1) := hUl
  have hun := unshift (q := val Q) (d := val Dv) (P := P2 s) (r := val U) (z := val X) (P2_pos s) (val_nonneg hUw) (by rw [Int.mul_comm, ← Hf2.out]; exact hUlt) (by rw [Int.mul_comm (val Dv), ← Hf2.out]; exact hv)
  rw [← shrL_div s (by omega)] at hun
  obtain ⟨Rm, hRm⟩ : ∃ Rm, Rm = shrL s U := ⟨_, rfl⟩
  rw [← hRm] at hun
  have HRl : Hid (Rm.length = m + 1) := (show _ = _ by rw [hRm, shrL_len, hUl])
  have hRw : AllW Rm := by rw [hRm]; exact shrL_w s (by omega) hUw
  have HRm : Hid (Rm = shrL s U) := hRm
  have Hun : Hid (0 ≤ val Rm ∧ val Rm < val Dv ∧ val Q * val Dv + val Rm = val X) := hun
  have sj := gj.size
  replace hx := hx.gr2 gj (by omega) (by omega)
  replace hd := hd.gr2 gj (by omega) (by omega)
  replace gB : w.grownBy wj none := ⟨gj.os.trans gB.os, gj.tape.trans gB.tape, gj.output.trans gB.output, Nat.le_trans gB.size gj.size, fun i hi _ => (gj.block i (Nat.lt_of_lt_of_le hi gB.size) (by omega) (by omega)).trans (gB.block i hi (by simp))⟩
  clear gj hQl hUl hUlt hv hun hRm hq0 hu hTb hTw
  go_wp2_with fail
  have neU : U ≠ [] := fun e => by have := HUl.out; rw [e] at this; simp at this
  refine (clone_in _ (m + 1) (m + 1) U _ hu2.inn HUl.out (by omega)).mono ?_
  rintro e wk ⟨b2, rfl, hO, gk⟩
  obtain ⟨gr, rfl, hgr, hrm⟩ := hO.blk neU
  have sk := gk.size
  have lr := hrm.lt
  replace hx := hx.grown0 gk
  replace hd := hd.grown0 gk
  replace hq := hq.grown0 gk
  replace gB := grownBy_then0 gB gk
  clear gk hO neU hu2
  go_wp2_with fail
  refine (zzshr_any gr (m + 1) (m + 1) U s _ hrm HUl.out hUw hs63 (by omega)).mono ?_
  rintro e wl ⟨rfl, hrm2, gl⟩
  rw [← HRm.out] at hrm2
  have sl := gl.size
  replace hx := hx.grown' gl (by omega)
  replace hd := hd.grown' gl (by omega)
  replace hq := hq.grown' gl (by omega)
  replace gB := grownBy_then gB gl (by omega)
  clear gl hrm
  go_wp2_with fail
  refine (trim_any _ (m + 1) (m + 1) Rm _ hrm2.inn HRl.out (Nat.le_refl _) (fun e => by cases e) (by omega)).mono ?_
  rintro e w' ⟨k, rfl, hk, hkv, hkt, hw⟩
  rw [hw]
  clear hw w'
  have Hkv : Hid (val (Rm.take k) = val Rm) := hkv
  have Hkt : Hid (Trimmed (Rm.take k)) := hkt
  have hlt : val (Rm.take k) < val Dv := by rw [hkv]; exact Hun.out.2.1
  have tD : Hid (Trimmed Dv) := .inr (by rw [HDl.out, ← Htop.out]; exact ht0)
  clear hkv hkt
  go_wp2_with fail
  refine (zzcmp_any _ k (m + 1) _ n n (Rm.take k) Dv _ (hrm2.inn.take k) (by have := HRl.out; simp; omega) (hRw.take k) Hkt.out hd.inn HDl.out hw1 tD (by omega) (by omega)).mono ?_
  rintro e wm ⟨rfl, gm⟩
  rw [cmpI_lt hlt]
  have sm := gm.size
  replace hx := hx.grown0 gm
  replace hd := hd.grown0 gm
  replace hq := hq.grown0 gm
  replace hrm2 := hrm2.grown0 gm
  replace gB := grownBy_then0 gB gm
  clear gm hlt Hkv Hkt tD
  go_wp2_with (at_make; refine wpList_mk rfl (.tmp 114) (.tmp 114) 22 rfl 25 Try.underlying22 info25 _ (m + 1) rfl rfl rfl (by omega) ?_)
  intro wn hp0 gn
  have sn := gn.size
  have lp := hp0.lt
  replace hx := hx.grown0 gn
  replace hd := hd.grown0 gn
  replace hq := hq.grown0 gn
  replace hrm2 := hrm2.grown0 gn
  replace gB := grownBy_then0 gB gn
  clear gn
  go_wp2_with fail
  refine (zzmul_any wm.heap.size (m + 1) (m + 1) _ lq lq _ n n Q Dv _ hp0 Hlq.out hq.inn HQl.out hQw hd.inn HDl.out hw1 (by omega)).mono ?_
  rintro e wo ⟨rfl, P, hPl, hPw, hPv, hP, go⟩
  have HPl : Hid (P.length = m + 1) := hPl
  have HPv : Hid (val P = val Q * val Dv) := hPv
  have so := go.size
  replace hx := hx.grown' go (by omega)
  replace hrm2 := hrm2.grown' go (by omega)
  replace gB := grownBy_then gB go (by omega)
  clear go hp0 hPl hPv hq hd
  go_wp2_with (at_make; refine wpList_mk rfl (.tmp 121) (.tmp 121) 22 rfl 25 Try.underlying22 info25 _ (m + 1) rfl rfl rfl (by omega) ?_)
  intro wp hs0 gp
  have sp := gp.size
  have ls := hs0.lt
  replace hx := hx.grown0 gp
  replace hP := hP.grown0 gp
  replace hrm2 := hrm2.grown0 gp
  replace gB := grownBy_then0 gB gp
  clear gp
  go_wp2_with fail
  refine (zzadd_any wo.heap.size (m + 1) (m + 1) _ (m + 1) _ (m + 1) (m + 1) _ P Rm _ hs0 (by simp) hP.inn HPl.out hPw hrm2.inn HRl.out hRw (Nat.le_refl _) (by omega)).mono ?_
  rintro e wq ⟨S, c, rfl, hc0, hc1, hSl, hSw, hSv, hS, gq⟩
  have sq := gq.size
  replace hx := hx.grown' gq (by omega)
  replace gB := grownBy_then gB gq (by omega)
  obtain ⟨hcz, hSe⟩ := sum_ext HXl.out hw0 hSl hSw hc0 hc1 (by rw [hSv, HPv.out]; exact Hun.out.2.2)
  subst hcz
  subst hSe
  obtain ⟨hkc, _, _⟩ := ext_cell hS HXl.out
  have hE : eqB ((X ++ [0]).take m) X = true := eqB_true (by rw [List.take_append_of_le_length (by rw [HXl.out]; omega), List.take_of_length_le (by rw [HXl.out]; omega)])
  have HXt : Hid (((X ++ [0]).take m).length = m) := (show _ = _ by have := HXl.out; simp; omega)
  clear gq hs0 hP hrm2 hSl hSw hSv hc0 hc1 HPv HPl hPw HRl hRw HQl hQw Hun HRm
  go_wp2_with fail
  refine (eq_in _ _ _ _ _ _ ((X ++ [0]).take m) X _ (hS.inn.take m) HXt.out hx.inn HXl.out (by omega)).mono ?_
  rintro e wr ⟨rfl, gr'⟩
  rw [hE]
  have hc3 : wr.cell? ⟨wo.heap.size, m, none⟩ = some (.int .u64 0) := gr'.cell hkc (by simp)
  replace gB := grownBy_then0 gB gr'
  clear gr' hkc hS hx hE
  go_wp2
  go_ret
  exact ⟨rfl, gB⟩
end Go.Proofs.Qxb6003414a

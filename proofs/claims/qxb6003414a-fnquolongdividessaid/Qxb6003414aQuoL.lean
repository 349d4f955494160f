/-
  THE WALK of quoLong.
-/
import Derived.Test.Qxb6003414aRecipZZ
import Derived.Test.Qxb6003414aMulSub
import Derived.Test.Qxb6003414aLongNum
import Derived.Deep.RegionWith
import Derived.Deep.DeepCutAuto
import Derived.Deep.CutBlock
namespace Go.Proofs.Qxb6003414a
open Go Go.RowKit

/-- Nothing old has turned but blocks a and b. -/
structure Gr2 (a b : Nat) (w w' : World) : Prop where
  os : w'.os = w.os
  tape : w'.tape = w.tape
  output : w'.output = w.output
  size : w.heap.size ≤ w'.heap.size
  block : ∀ k, k < w.heap.size → k ≠ a → k ≠ b → w'.heap[k]? = w.heap[k]?
section
variable {a b : Nat} {w w' w'' : World}
theorem Gr2.refl (a b : Nat) (w : World) : Gr2 a b w w := ⟨rfl, rfl, rfl, Nat.le_refl _, fun _ _ _ _ => rfl⟩
theorem Gr2.trans (h : Gr2 a b w w') (k : Gr2 a b w' w'') : Gr2 a b w w'' :=
  ⟨k.os.trans h.os, k.tape.trans h.tape, k.output.trans h.output, Nat.le_trans h.size k.size, fun i hi h1 h2 => (k.block i (Nat.lt_of_lt_of_le hi h.size) h1 h2).trans (h.block i hi h1 h2)⟩
theorem Gr2.of0 (h : w.grownBy w' none) : Gr2 a b w w' := ⟨h.os, h.tape, h.output, h.size, fun i hi _ _ => h.block i hi (by simp)⟩
theorem Gr2.of1 (h : w.grownBy w' (some a)) : Gr2 a b w w' := ⟨h.os, h.tape, h.output, h.size, fun i hi h1 _ => h.block i hi (by simpa using h1)⟩
theorem Gr2.of2 (h : w.grownBy w' (some b)) : Gr2 a b w w' := ⟨h.os, h.tape, h.output, h.size, fun i hi _ h2 => h.block i hi (by simpa using h2)⟩
theorem Gr2.new (h : Gr2 a b w w') (ha : w.heap.size ≤ a) (hb : w.heap.size ≤ b) : w.grownBy w' none := ⟨h.os, h.tape, h.output, h.size, fun i hi _ => h.block i hi (by omega) (by omega)⟩
theorem Blk.gr2 {g : Nat} {t : TypeId} {M : List Int} (h : Blk w g t M) (k : Gr2 a b w w') (h1 : g ≠ a) (h2 : g ≠ b) : Blk w' g t M := by
  unfold Blk; rw [k.block g h.lt h1 h2]; exact h
end

/-- The divisor's struct in memory. -/
def DvAt (w : World) (gd gw n : Nat) (s : Int) (top v ts : Int) : Prop :=
  w.heap[gd]? = some (.cells #[.slice (some ⟨gw, 0, none⟩) n n, .slice none 0 0, .int .u64 s, .int .u64 top, .int .u64 v, .int .u64 ts] 58 (0, 0))
section
variable {w w' : World} {gd gw n : Nat} {s top v ts : Int}
theorem DvAt.lt (h : DvAt w gd gw n s top v ts) : gd < w.heap.size := (Array.getElem?_eq_some_iff.1 h).1
theorem DvAt.gr2 {a b : Nat} (h : DvAt w gd gw n s top v ts) (k : Gr2 a b w w') (h1 : gd ≠ a) (h2 : gd ≠ b) : DvAt w' gd gw n s top v ts := by
  unfold DvAt; rw [k.block gd h.lt h1 h2]; exact h
theorem DvAt.words (h : DvAt w gd gw n s top v ts) : w.cell? ⟨gd, 0, none⟩ = some (.slice (some ⟨gw, 0, none⟩) n n) := by rw [cell_of_row w gd 0 _ _ _ h]; rfl
theorem DvAt.shift (h : DvAt w gd gw n s top v ts) : w.cell? ⟨gd, 2, none⟩ = some (.int .u64 s) := by rw [cell_of_row w gd 2 _ _ _ h]; rfl
theorem DvAt.topc (h : DvAt w gd gw n s top v ts) : w.cell? ⟨gd, 3, none⟩ = some (.int .u64 top) := by rw [cell_of_row w gd 3 _ _ _ h]; rfl
theorem DvAt.vc (h : DvAt w gd gw n s top v ts) : w.cell? ⟨gd, 4, none⟩ = some (.int .u64 v) := by rw [cell_of_row w gd 4 _ _ _ h]; rfl
theorem DvAt.tsc (h : DvAt w gd gw n s top v ts) : w.cell? ⟨gd, 5, none⟩ = some (.int .u64 ts) := by rw [cell_of_row w gd 5 _ _ _ h]; rfl
end

theorem elem41 : Try.prog.elem 41 = 43 := by kernel_rfl
theorem size43 : (Try.prog.info? 43).map (·.size) = some 1 := by kernel_rfl
theorem run_size43 (w : World) : (sizeOf 43).run Try.prog w = .ok 1 w := by
  have := size43
  cases hq : Try.prog.info? 43 with
  | none => rw [hq] at this; cases this
  | some i =>
    rw [hq] at this
    have hi : i.size = 1 := by simpa using this
    simp [sizeOf, typeInfo, hq, hi]
/-- u[lo:hi], as the walk wants it. -/
theorem slice_lh (g len cap lo hi : Nat) (h1 : lo ≤ hi) (h2 : hi ≤ cap) (h3 : lo ≠ cap) (w : World) :
    (Instr.slice 41 (.slice (some ⟨g, 0, none⟩) len cap) (some (.int .i64 (lo : Int))) (some (.int .i64 (hi : Int))) none).run Try.prog w = .ok (.slice (some ⟨g, lo, none⟩) (hi - lo) (cap - lo)) w := by
  rw [run_slice_lh (P := Try.prog) w 41 (some ⟨g, 0, none⟩) len cap (by rw [elem41]; exact Try.underlying41) .i64 .i64 lo hi (by omega) (by omega) (by omega), elem41, run_size43]
  simp only [Result.andThen, sliced, Int.toNat_natCast]
  rw [if_neg (by omega)]
  have e : (⟨g, 0, none⟩ : Addr).add (lo * 1) = ⟨g, lo, none⟩ := by unfold Addr.add; split <;> simp_all
  simp only [Option.map_some]
  rw [e]
theorem wrapI {n : Int} (h0 : -9223372036854775808 ≤ n) (h1 : n ≤ 9223372036854775807) : IntKind.i64.wrap n = n := by
  simp [IntKind.wrap, IntKind.bits, IntKind.signed]; omega
theorem slice_h (g len cap hi : Nat) (h2 : hi ≤ cap) (h3 : cap ≠ 0) (w : World) :
    (Instr.slice 41 (.slice (some ⟨g, 0, none⟩) len cap) none (some (.int .i64 (hi : Int))) none).run Try.prog w = .ok (.slice (some ⟨g, 0, none⟩) hi cap) w := by
  rw [run_slice_h (P := Try.prog) w 41 (some ⟨g, 0, none⟩) len cap (by rw [elem41]; exact Try.underlying41) .i64 hi (by omega) (by omega), elem41, run_size43]
  simp only [Result.andThen, sliced, Int.toNat_natCast]
  rw [if_neg h3]
  simp [Addr.add]
theorem slice_lh' (g len cap lo hi n : Nat) (LO HI : Int) (e1 : LO = (lo : Int)) (e2 : HI = (hi : Int)) (hn : hi - lo = n) (h1 : lo ≤ hi) (h2 : hi ≤ cap) (h3 : lo ≠ cap) (w : World) :
    (Instr.slice 41 (.slice (some ⟨g, 0, none⟩) len cap) (some (.int .i64 LO)) (some (.int .i64 HI)) none).run Try.prog w = .ok (.slice (some ⟨g, lo, none⟩) n (cap - lo)) w := by
  subst e1 e2 hn
  exact slice_lh g len cap lo hi h1 h2 h3 w
/-- The row once more written at the same place. -/
theorem row_again (U Z Z2 : List Int) (j n : Nat) (hZ : Z.length = n) (hj : j + n ≤ U.length) :
    ((((U.take j ++ Z) ++ U.drop (j + n)).take j ++ Z2) ++ ((U.take j ++ Z) ++ U.drop (j + n)).drop (j + n)) = (U.take j ++ Z2) ++ U.drop (j + n) ∧
    (((U.take j ++ Z) ++ U.drop (j + n)).drop j).take n = Z ∧ ((U.take j ++ Z) ++ U.drop (j + n)).length = U.length := by
  have h1 : (U.take j).length = j := by simp; omega
  have h2 : (U.take j ++ Z).length = j + n := by simp; omega
  refine ⟨?_, ?_, by simp; omega⟩
  · rw [List.append_assoc (U.take j) Z, List.take_append_of_le_length (by omega), List.take_of_length_le (by omega), ← List.append_assoc (U.take j) Z, List.drop_append_of_le_length (by omega), List.drop_of_length_le (by omega), List.nil_append]
  · rw [List.append_assoc, List.drop_append_of_le_length (by omega), List.drop_of_length_le (by omega), List.nil_append, List.take_append_of_le_length (by omega), List.take_of_length_le (by omega)]
theorem drop_last {U : List Int} {m : Nat} (h : U.length = m + 1) : U.drop m = [U.getD m 0] := by
  rw [List.drop_eq_getElem_cons (by omega), List.drop_of_length_le (by omega), getD_of_lt U m (by omega)]
theorem ext_cell' {w : World} {g n : Nat} {t : TypeId} {Z : List Int} {x : Int} (h : Blk w g t (Z ++ [x])) (hl : Z.length = n) :
    w.cell? ⟨g, n, none⟩ = some (.int .u64 x) ∧ w.frozen? ⟨g, n, none⟩ = false ∧ ∀ y, Blk (w.setCell ⟨g, n, none⟩ (.int .u64 y)) g t (Z ++ [y]) := by
  subst hl
  refine ⟨?_, h.frozen _, fun y => ?_⟩
  · have := h.cell Z.length (by simp)
    rw [this]; simp [List.getD]
  · have := h.set Z.length y
    rw [List.set_append, if_neg (by omega), Nat.sub_self] at this
    exact this

set_option maxHeartbeats 2000000 in
set_option maxRecDepth 100000 in
/-- quoLong. -/
theorem quoLong_any (gq lq cq gu m cu gd gw k : Nat) (Q0 X Dv : List Int) (x0 : Int) (s : Nat) (top v ts : Int) (w : World)
    (hq : Blk w gq 43 Q0) (hQl : Q0.length = lq) (hu : Blk w gu 43 (X ++ [x0])) (hXl : X.length = m) (hXw : AllW X) (hcu : m + 1 ≤ cu)
    (hD : DvAt w gd gw (k + 2) s top v ts) (hw : Blk w gw 43 Dv) (hDl : Dv.length = k + 2) (hDw : AllW Dv) (hm : m + 1 = lq + (k + 2)) (hlq : 1 ≤ lq) (hb : m ≤ 1048575)
    (htop : Dv.getD (k + 1) 0 = top) (R : Recip top v) (hs : s ≤ 63) (d1 : gq ≠ gu) (d2 : gd ≠ gq) (d3 : gd ≠ gu) (d4 : gw ≠ gq) (d5 : gw ≠ gu) :
    Calls Try.prog 43 #[.slice (some ⟨gq, 0, none⟩) lq cq, .slice (some ⟨gu, 0, none⟩) (m + 1) cu, .pointer (some ⟨gd, 0, none⟩)] w fun e w' => e = .returned (.tuple #[]) ∧
      ∃ Q U, Q.length = lq ∧ AllW Q ∧ U.length = m + 1 ∧ AllW U ∧ val U < val Dv ∧ val Q * val Dv + val U = P2 s * val X ∧ Blk w' gq 43 Q ∧ Blk w' gu 43 U ∧ Gr2 gu gq w w' := by
  have HQl : Hid (Q0.length = lq) := hQl
  have HXl : Hid (X.length = m) := hXl
  have HDl : Hid (Dv.length = k + 2) := hDl
  have Hm : Hid (m + 1 = lq + (k + 2)) := hm
  have Htop : Hid (Dv.getD (k + 1) 0 = top) := htop
  obtain ⟨next, hnext⟩ : ∃ next, next = Dv.getD k 0 := ⟨_, rfl⟩
  have Hnext : Hid (next = Dv.getD k 0) := hnext
  obtain ⟨out, hout⟩ : ∃ out, lastOf 0 X / P2 (64 - s) = out := ⟨_, rfl⟩
  have Hout : Hid (lastOf 0 X / P2 (64 - s) = out) := hout
  obtain ⟨U1, hU1⟩ : ∃ U1, shlL s 0 X = U1 := ⟨_, rfl⟩
  have HU1 : Hid (shlL s 0 X = U1) := hU1
  have Hsl : Hid (U1.length = m) := (show _ = _ by rw [← hU1, shlL_len, hXl])
  have Hx : Hid (X = (X ++ [x0]).take X.length) := (show _ = _ by simp)
  have Hxl : Hid (m ≤ (X ++ [x0]).length) := (show _ ≤ _ by simp; omega)
  have Hdl : Hid ((X ++ [x0]).drop m = [x0]) := (show _ = _ by rw [← hXl]; simp)
  have c0 := hD.words
  have c2 := hD.shift
  have kw1 := hw.cell (k + 1) (by omega)
  have kw2 := hw.cell k (by omega)
  rw [htop] at kw1
  rw [← hnext] at kw2
  have x1 : (k : Int) + 2 - 1 = (k : Int) + 1 := by omega
  have x2 : (k : Int) + 2 - 2 = (k : Int) := by omega
  have hk : k ≤ 1048575 := by omega
  have hlq2 : lq ≤ 1048575 := by omega
  have hkm : k + 2 ≤ m := by omega
  have hm0 : (0 : Int) ≤ (m : Int) := by omega
  have hcu3 : m ≤ cu := by omega
  have hcu0 : cu ≠ 0 := by omega
  have hsl := slice_h gu (m + 1) cu m hcu3 hcu0
  have hwm : IntKind.i64.wrap (m : Int) = (m : Int) := wrapI (by omega) (by omega)
  clear hQl hXl hDl hm htop hnext hout hU1
  go_enter Try.func43, Try.ntmps43
  go_wp2
  go_quiet (fail)
  go_wp2
  go_cut [] (fun wc => Blk wc gu 43 (U1 ++ [out]) ∧ w.grownBy wc (some gu))
  case first =>
    go_region_with (go_at_call 38; refine (shlWords_any gu m cu (some ⟨gu, 0, none⟩) cu (X ++ [x0]) X s _ (by exact hu) Hxl.out (.inr ⟨rfl, Hx.out⟩) HXl.out hXw hs (by omega)).mono ?_; rintro e w1 ⟨rfl, hb1, hg1⟩; rw [Hdl.out, HU1.out] at hb1; rw [Hout.out]; obtain ⟨kc, kf, kb⟩ := ext_cell' hb1 Hsl.out)
    have kbo := kb out
    have gO : w.grownBy (w1.setCell ⟨gu, m, none⟩ (.int .u64 out)) (some gu) := grownBy_set (grownBy_trans (grownBy_drew (grownBy_drewN (grownBy_refl w _) _)) hg1)
    go_wp2
    go_meet
    case rel => exact ⟨kbo, gO⟩
  case rest =>
    obtain ⟨hbU, gU⟩ := hcut
    clear c0 c2 kw1 kw2 hsl hwm
    have tlo := R.lo
    have thi := R.hi
    have hlw : W64 (lastOf 0 X) := by
      rw [lastOf_eq 0 X (by rw [HXl.out]; omega)]; exact hXw.getD _
    have ho := shr_lt hlw s (by omega)
    rw [Hout.out] at ho
    have hp2 := P2_le s hs
    have hU1w : AllW U1 := by rw [← HU1.out]; exact shlL_w s (by omega) W64.zero hXw
    have hUw : AllW (U1 ++ [out]) := hU1w.snoc ⟨ho.1, by omega⟩
    have HUl : Hid ((U1 ++ [out]).length = m + 1) := (show _ = _ by simp [Hsl.out])
    have HV0 : Hid (val (U1 ++ [out]) = P2 s * val X) := by
      have := shlL_val s (by omega) 0 X
      rw [Int.zero_ediv, Int.add_zero, HU1.out, Hout.out, HXl.out] at this
      show _ = _
      rw [val_snoc, Hsl.out, Int.mul_comm]; exact this
    have Hst : Hid (val ((U1 ++ [out]).drop lq) < val Dv) := by
      refine start_lt HDl.out hDw (by rw [Htop.out]; exact tlo) (by rw [HUl.out]; exact Hm.out) hUw ?_
      have e : lq + k + 1 = U1.length := by rw [Hsl.out]; have := Hm.out; omega
      rw [e]
      have e2 : (U1 ++ [out]).getD U1.length 0 = out := by simp [List.getD]
      rw [e2]; omega
    have HDn : Hid (val Dv < pw (k + 2)) := (show _ < _ by have := val_lt hDw; rw [HDl.out] at this; exact this)
    obtain ⟨D, hDD⟩ : ∃ D, val Dv = D := ⟨_, rfl⟩
    have HDD : Hid (val Dv = D) := hDD
    rw [hDD] at Hst HDn
    clear hDD hlw hU1w
    go_wp2
    go_loopw [9] (fun t wr => ∃ (j1 : Nat) (Ul Qs : List Int), j1 ≤ lq ∧ t = .int .i64 ((j1 : Int) - 1) ∧ Hid (Ul.length = m + 1) ∧ AllW Ul ∧ Hid (val (Ul.drop j1) < D) ∧ Hid (Qs.length = lq - j1) ∧ AllW Qs ∧ Hid (val Qs * D * pw j1 + val Ul = P2 s * val X) ∧ Blk wr gu 43 Ul ∧ Blk wr gq 43 (Q0.take j1 ++ Qs) ∧ Gr2 gu gq w wr) (fun t _ => (intOf t + 1).toNat)
    case atStart =>
      refine ⟨lq, U1 ++ [out], [], Nat.le_refl _, rfl, HUl, hUw, Hst, (show _ = _ by simp), AllW.nil, ?_, hbU, ?_, Gr2.of1 gU⟩
      · show _ = _
        rw [val_nil, HV0.out]; simp
      · rw [List.take_of_length_le (by rw [HQl.out]; omega), List.append_nil]
        exact hq.grown' gU d1
    case round =>
      obtain ⟨j1, Ul, Qs, hj1, rfl, HUl2, hUlw, Hlt, HQs, hQsw, Hv, hbu, hbq, hG⟩ := hrel
      clear Hst HV0 HUl hUw hbU gU
      by_cases hj0 : 1 ≤ j1
      · obtain ⟨j, rfl⟩ : ∃ j, j1 = j + 1 := ⟨j1 - 1, by omega⟩
        have ej : ((j + 1 : Nat) : Int) - 1 = (j : Int) := by omega
        rw [ej]
        have hji : (0 : Int) ≤ (j : Int) := by omega
        have hjm : j + (k + 2) < m + 1 := by have := Hm.out; omega
        obtain ⟨u2, hu2⟩ : ∃ u2, u2 = Ul.getD (j + (k + 2)) 0 := ⟨_, rfl⟩
        obtain ⟨u1, hu1⟩ : ∃ u1, u1 = Ul.getD (j + (k + 1)) 0 := ⟨_, rfl⟩
        obtain ⟨u0, hu0⟩ : ∃ u0, u0 = Ul.getD (j + k) 0 := ⟨_, rfl⟩
        have e2 := hbu.cell (j + (k + 2)) (by rw [HUl2.out]; omega)
        have e1 := hbu.cell (j + (k + 1)) (by rw [HUl2.out]; omega)
        have e0 := hbu.cell (j + k) (by rw [HUl2.out]; omega)
        rw [← hu2] at e2
        rw [← hu1] at e1
        rw [← hu0] at e0
        have HwF := window_facts (n := k + 2) hUlw (by rw [HUl2.out]; have := Hm.out; omega) HDn.out Hlt.out
        obtain ⟨V, hV⟩ : ∃ V, V = (Ul.drop j).take (k + 2 + 1) := ⟨_, rfl⟩
        have HV : Hid (V = (Ul.drop j).take (k + 2 + 1)) := hV
        have hVl : V.length = k + 3 := by rw [hV, List.length_take, List.length_drop, HUl2.out]; omega
        have hVw : AllW V := by rw [hV]; exact (hUlw.drop j).take _
        have HVlt : Hid (val V < D * 18446744073709551616) := (show _ < _ by rw [hV]; exact HwF.1)
        have g2 : V.getD (k + 2) 0 = u2 := by rw [hV, getD_take _ _ _ (by omega), getD_drop, hu2]
        have g1 : V.getD (k + 1) 0 = u1 := by rw [hV, getD_take _ _ _ (by omega), getD_drop, hu1]
        have g0 : V.getD k 0 = u0 := by rw [hV, getD_take _ _ _ (by omega), getD_drop, hu0]
        have HW := win_of HDl.out hDw (by rw [Htop.out]; exact tlo) hVl hVw (by rw [HDD.out]; exact HVlt.out)
        rw [HDD.out, Htop.out, ← Hnext.out, g2, g1, g0] at HW
        have HVl : Hid (V.length = k + 3) := hVl
        have hVn := val_nonneg hVw
        obtain ⟨W, hWW⟩ : ∃ W, val V = W := ⟨_, rfl⟩
        have HWW : Hid (val V = W) := hWW
        rw [hWW] at HW hVn
        have u2w : W64 u2 := ⟨HW.a0, HW.a1⟩
        have u1w : W64 u1 := ⟨HW.b0, HW.b1⟩
        have u0w : W64 u0 := ⟨HW.c0, HW.c1⟩
        have tw : W64 top := ⟨by omega, thi⟩
        have nw : W64 next := ⟨HW.n0, HW.n1⟩
        have HWin : Hid (Win D W top next u2 u1 u0 (pw k) (val (Dv.take k)) (val (V.take k))) := HW
        have hDr := hD.gr2 hG d3 d2
        clear HwF hV hVl g2 g1 g0 HW hWW hu2 hu1 hu0
        have i2 : (j : Int) + ((k : Int) + 2) < (m : Int) + 1 := by omega
        have i1 : (j : Int) + ((k : Int) + 2) - 1 < (m : Int) + 1 := by omega
        have i0 : (j : Int) + ((k : Int) + 2) - 2 < (m : Int) + 1 := by omega
        have q2 : IntKind.i64.wrap ((j : Int) + ((k : Int) + 2)) = (j : Int) + ((k : Int) + 2) := wrapI (by omega) (by omega)
        have q1 : IntKind.i64.wrap ((j : Int) + ((k : Int) + 2) - 1) = (j : Int) + ((k : Int) + 1) := by rw [wrapI (by omega) (by omega)]; omega
        have q0 : IntKind.i64.wrap ((j : Int) + ((k : Int) + 2) - 2) = (j : Int) + (k : Int) := by rw [wrapI (by omega) (by omega)]; omega
        have p1 : (j : Int) + ((k : Int) + 1) < (m : Int) + 1 := by omega
        have p0 : (j : Int) + (k : Int) < (m : Int) + 1 := by omega
        go_wp2
        go_quiet (fail)
        clear q2 q1 q0 e2 e1 e0 i2 i1 i0 p1 p0
        go_upto_if 88 with (fail)
        go_cut [13, 14, 15] (fun a b c wc => ∃ q r o, a = .int .u64 q ∧ b = .int .u64 r ∧ c = .int .u64 o ∧ Est D W top u2 u1 q r o ∧ wr.grownBy wc none)
        case first =>
          by_cases hge : top ≤ u2
          · have hd : decide (top ≤ u2) = true := decide_eq_true hge
            have E := est_max HWin.out hge
            go_wp2_with (go_at_call 44; refine (add_any u1 top 0 u1w tw (Int.le_refl 0) (by decide) _).mono ?_; rintro e w' ⟨rfl, rfl⟩)
            go_meet
            case rel => exact ⟨_, _, _, rfl, rfl, rfl, E, grownBy_drewN (grownBy_refl _ _) _⟩
          · have hd : decide (top ≤ u2) = false := decide_eq_false hge
            have E := est_div HWin.out (by omega)
            have k3 := hDr.topc
            have k4 := hDr.vc
            have k5 := hDr.tsc
            go_wp2_with (go_at_call 41; refine (quo_any top v u2 u1 ts _ R u2w.1 (by omega) u1w).mono ?_; rintro e w' ⟨rfl, hg⟩)
            go_meet
            case rel => exact ⟨_, _, _, rfl, rfl, rfl, E, grownBy_then0 (grownBy_drewN (grownBy_refl _ _) _) hg⟩
        case rest =>
          obtain ⟨q, r, o, rfl, rfl, rfl, E0, g1⟩ := hcut
          go_upto_block 2 with (fail)
          go_cut [13] (fun a wd => ∃ q, a = .int .u64 q ∧ Fit D W q ∧ wr.grownBy wd none)
          case first =>
            go_wp2_with fail
            go_loop [13, 14, 15] (fun a b c => ∃ q r o, a = .int .u64 q ∧ b = .int .u64 r ∧ c = .int .u64 o ∧ Est D W top u2 u1 q r o) (fun a _ _ => (intOf a).toNat)
            case atStart => exact ⟨_, _, _, rfl, rfl, rfl, E0⟩
            case round =>
              obtain ⟨q, r, o, rfl, rfl, rfl, E⟩ := hrel
              clear E0
              have oo : o = 1 ∨ o = 0 := by have := E.o0; have := E.o1; omega
              rcases oo with rfl | rfl
              · have F := est_fit HWin.out E (.inl rfl)
                go_wp2_with fail
                go_meet
                case rel => exact ⟨_, rfl, F, g1⟩
              · have qw : W64 q := ⟨E.q0, E.q1⟩
                have rw' : W64 r := ⟨E.r0, E.r1⟩
                have qb0 := qw.1
                have qb1 := qw.2
                obtain ⟨m1, m2, m3, m4⟩ := mul_facts qw nw
                obtain ⟨hi, hhi⟩ : ∃ hi, mulHi q next = hi := ⟨_, rfl⟩
                obtain ⟨lo, hlo⟩ : ∃ lo, mulLo q next = lo := ⟨_, rfl⟩
                rw [hhi] at m2 m3 m4
                rw [hlo] at m1 m4
                have m5 := m1.1
                have m6 := m1.2
                have Hm4 : Hid (lo + 18446744073709551616 * hi = q * next) := m4
                clear m4
                by_cases t1 : hi < r
                · have F := est_fit HWin.out E (.inr (by rw [← Hm4.out]; have := u0w.1; omega))
                  have b1 : decide (hi < r) = true := decide_eq_true t1
                  go_wp2_with (go_at_call 46; refine (mul_any q next qw nw _).mono ?_; rintro e w' ⟨rfl, rfl⟩)
                  go_meet
                  case rel => exact ⟨_, rfl, F, g1⟩
                · have b1 : decide (hi < r) = false := decide_eq_false t1
                  by_cases t2 : hi = r ∧ lo ≤ u0
                  · obtain ⟨t2, t3⟩ := t2
                    have F := est_fit HWin.out E (.inr (by rw [← Hm4.out]; omega))
                    have b2 : (hi == r) = true := by rw [beq_iff_eq]; exact t2
                    have b3 : decide (lo ≤ u0) = true := decide_eq_true t3
                    clear t2 Hm4 E
                    go_wp2_with (go_at_call 46; refine (mul_any q next qw nw _).mono ?_; rintro e w' ⟨rfl, rfl⟩)
                    go_meet
                    case rel => exact ⟨_, rfl, F, g1⟩
                  · obtain ⟨q1, E'⟩ := est_step HWin.out E (by rw [← Hm4.out]; have := u0w.2; omega)
                    clear Hm4 E
                    by_cases t3 : hi = r
                    · have b2 : (hi == r) = true := by rw [beq_iff_eq]; exact t3
                      have b3 : decide (lo ≤ u0) = false := decide_eq_false (fun hc => t2 ⟨t3, hc⟩)
                      clear t2 t3
                      go_wp2_with (first | (go_at_call 46; refine (mul_any q next qw nw _).mono ?_; rintro e w' ⟨rfl, rfl⟩) | (go_at_call 44; refine (add_any r top 0 rw' tw (Int.le_refl 0) (by decide) _).mono ?_; rintro e w' ⟨rfl, rfl⟩))
                      go_round
                      case rel => exact ⟨_, _, _, rfl, rfl, rfl, E'⟩
                      case measure => simp [intOf]; omega
                    · have b2 : (hi == r) = false := by rw [beq_eq_false_iff_ne]; exact t3
                      clear t2
                      go_wp2_with (first | (go_at_call 46; refine (mul_any q next qw nw _).mono ?_; rintro e w' ⟨rfl, rfl⟩) | (go_at_call 44; refine (add_any r top 0 rw' tw (Int.le_refl 0) (by decide) _).mono ?_; rintro e w' ⟨rfl, rfl⟩))
                      go_round
                      case rel => exact ⟨_, _, _, rfl, rfl, rfl, E'⟩
                      case measure => simp [intOf]; omega
          case rest =>
            obtain ⟨q, rfl, F, g2⟩ := hcut
            have Dpos := HWin.out.pos
            clear E0 g1 HWin
            have qw : W64 q := ⟨F.q0, F.q1⟩
            have hcj : cu ≠ j := by omega
            have hsl := slice_lh' gu (m + 1) cu j (j + (k + 2) + 1) (k + 2 + 1) (j : Int) ((j : Int) + ((k : Int) + 2) + 1) rfl (by omega) (by omega) (by omega) (by omega) (by omega)
            have y1 : IntKind.i64.wrap ((j : Int) + ((k : Int) + 2)) = (j : Int) + ((k : Int) + 2) := wrapI (by omega) (by omega)
            have y2 : IntKind.i64.wrap ((j : Int) + ((k : Int) + 2) + 1) = (j : Int) + ((k : Int) + 2) + 1 := wrapI (by omega) (by omega)
            have hbu2 := hbu.grown0 g2
            have hDr2 := hDr.gr2 (Gr2.of0 (a := gu) (b := gq) g2) d3 d2
            have hw2 := (hw.gr2 hG d5 d4).grown0 g2
            have z0 := hDr2.words
            have HjU : Hid (j + (k + 2 + 1) ≤ Ul.length) := (show _ ≤ _ by rw [HUl2.out]; omega)
            have Hkb : Hid (k + 2 ≤ 1048576) := (show _ ≤ _ by omega)
            go_wp2
            go_region_with (go_at_call 37; refine (mulSub_any gu j (k + 2) (cu - j) (some ⟨gw, 0, none⟩) (k + 2) Ul Dv q _ (by exact hbu2) HjU.out hUlw (Rd.of_blk (by exact hw2) d5) HDl.out hDw qw Hkb.out).mono ?_; rintro e w1 ⟨Z, b, rfl, hb0, hb1, hZl, hZw, hZv, hbZ, hgZ⟩)
            have gZ : wc.grownBy w1 (some gu) := grownBy_trans (grownBy_drew (grownBy_refl wc _)) hgZ
            rw [← HV.out, HWW.out, HDD.out] at hZv
            have hZ0 := val_nonneg hZw
            have hZ1 := val_lt hZw
            rw [hZl] at hZ1
            have hpm := pw_mono (show k + 2 ≤ k + 2 + 1 by omega)
            have HX1 := fit_exact Dpos hVn F hZ0 hZ1 (by have := HDn.out; omega) hb0 hb1 hZv
            have hbq1 := (hbq.grown0 g2).grown' gZ d1
            have hG1 : Gr2 gu gq w w1 := (hG.trans (Gr2.of0 g2)).trans (Gr2.of1 gZ)
            have HZl : Hid (Z.length = k + 2 + 1) := hZl
            have hUl3 : AllW ((Ul.take j ++ Z) ++ Ul.drop (j + (k + 2 + 1))) := ((hUlw.take j).append hZw).append (hUlw.drop _)
            have HF : Hid _ := HX1
            have bb : b = 0 ∨ b = 1 := by omega
            clear hZv HX1 hZ0 hZ1 hpm hZl hgZ
            rcases bb with rfl | rfl
            · obtain ⟨f1, f2⟩ := HF.out.1 rfl
              obtain ⟨l1, l2⟩ := long_step (n := k + 2) hUlw (by rw [HUl2.out]; omega) HDn.out Hlt.out HZl.out (by rw [← HV.out, HWW.out]; exact f1) f2 Hv.out
              have HL1 : Hid _ := l1
              have HL2 : Hid _ := l2
              have HL3 : Hid (((Ul.take j ++ Z) ++ Ul.drop (j + (k + 2 + 1))).length = m + 1) := (show _ = _ by rw [(row_again Ul Z Z j (k + 2 + 1) HZl.out HjU.out).2.2, HUl2.out])
              have hset := hbq1.set j q
              rw [digits_set Q0 Qs j q (by rw [HQl.out]; omega)] at hset
              have hcq := hbq1.cell j (by have := HQl.out; simp; omega)
              have hfq := hbq1.frozen j
              generalize (Q0.take (j + 1) ++ Qs).getD j 0 = oldq at hcq
              have hbZ2 : Blk (w1.setCell ⟨gq, j, none⟩ (.int .u64 q)) gu 43 ((Ul.take j ++ Z) ++ Ul.drop (j + (k + 2 + 1))) := hbZ.grown' (grownBy_set (i := j) (v := .int .u64 q) (grownBy_refl w1 (some gq))) (Ne.symm d1)
              have hG2 : Gr2 gu gq w (w1.setCell ⟨gq, j, none⟩ (.int .u64 q)) := hG1.trans (Gr2.of2 (grownBy_set (i := j) (v := .int .u64 q) (grownBy_refl w1 (some gq))))
              have HQ2 : Hid ((q :: Qs).length = lq - j) := (show _ = _ by rw [List.length_cons, HQs.out]; omega)
              have hQ2 := AllW.cons qw hQsw
              have hjq : (j : Int) < (lq : Int) := by omega
              clear hsl f1 f2 l1 l2 hbq1 hbZ hbu hbu2 hDr hDr2 hw2 z0 HF Hlt Hv HQs hQsw hUlw
              go_wp2
              go_roundw
              case rel => exact ⟨j, _, _, by omega, rfl, HL3, hUl3, HL1, HQ2, hQ2, HL2, hbZ2, hset, hG2⟩
              case measure => simp [intOf]
            · obtain ⟨q1le, hfin⟩ := HF.out.2 rfl
              have Hfin : Hid _ := hfin
              have qb1 := qw.2
              have qmw : W64 (q - 1) := ⟨by omega, by omega⟩
              have hDr3 := hDr2.gr2 (Gr2.of1 (b := gq) gZ) d3 d2
              have hw3 := hw2.grown' gZ d5
              have z3 := hDr3.words
              have HRA := row_again Ul Z Z j (k + 2 + 1) HZl.out HjU.out
              have HjM : Hid (j + (k + 2 + 1) ≤ ((Ul.take j ++ Z) ++ Ul.drop (j + (k + 2 + 1))).length) := (show _ ≤ _ by rw [HRA.2.2]; exact HjU.out)
              have HZM : Hid (Z = (((Ul.take j ++ Z) ++ Ul.drop (j + (k + 2 + 1))).drop j).take Z.length) := (show _ = _ by rw [HZl.out, HRA.2.1])
              have Hkb1 : Hid (k + 2 + 1 ≤ 1048576) := (show _ ≤ _ by omega)
              obtain ⟨M, hM⟩ : ∃ M, M = (Ul.take j ++ Z) ++ Ul.drop (j + (k + 2 + 1)) := ⟨_, rfl⟩
              rw [← hM] at HjM HZM hbZ
              have HM : Hid (M = (Ul.take j ++ Z) ++ Ul.drop (j + (k + 2 + 1))) := hM
              clear hfin HF HRA hM hbu hbu2 hDr hDr2 hw2 z0
              go_wp2
              go_region_with (go_at_call 32; refine (addWords_any gu j (k + 2 + 1) (cu - j) (some ⟨gu, j, none⟩) (cu - j) (some ⟨gw, 0, none⟩) (k + 2) (k + 2) M Z Dv _ (by exact hbZ) HjM.out (.inr ⟨rfl, HZM.out⟩) HZl.out hZw (Rd.of_blk (by exact hw3) d5) HDl.out hDw Hkb1.out Hkb.out).mono ?_; rintro e w2 ⟨Z2, c, rfl, hc0, hc1, hZ2l, hZ2w, hZ2v, hbZ2, hgZ2⟩)
              have gZ2 : w1.grownBy w2 (some gu) := grownBy_trans (grownBy_drew (grownBy_refl w1 _)) hgZ2
              rw [List.take_of_length_le (l := Dv) (by rw [HDl.out]; omega), HDD.out] at hZ2v
              rw [HM.out, (row_again Ul Z Z2 j (k + 2 + 1) HZl.out HjU.out).1] at hbZ2
              have hv0 := val_nonneg hZ2w
              have hv1 := val_lt hZ2w
              rw [hZ2l] at hv1
              obtain ⟨f1, _, f2⟩ := Hfin.out (val Z2) c hv0 hv1 hc0 hc1 hZ2v
              obtain ⟨l1, l2⟩ := long_step (n := k + 2) hUlw (by rw [HUl2.out]; omega) HDn.out Hlt.out hZ2l (by rw [← HV.out, HWW.out]; exact f1) f2 Hv.out
              have HL1 : Hid _ := l1
              have HL2 : Hid _ := l2
              have HL3 : Hid (((Ul.take j ++ Z2) ++ Ul.drop (j + (k + 2 + 1))).length = m + 1) := (show _ = _ by rw [(row_again Ul Z2 Z2 j (k + 2 + 1) hZ2l HjU.out).2.2, HUl2.out])
              have hUl4 : AllW ((Ul.take j ++ Z2) ++ Ul.drop (j + (k + 2 + 1))) := ((hUlw.take j).append hZ2w).append (hUlw.drop _)
              have hbq2 := hbq1.grown' gZ2 d1
              have hset := hbq2.set j (q - 1)
              rw [digits_set Q0 Qs j (q - 1) (by rw [HQl.out]; omega)] at hset
              have hcq := hbq2.cell j (by have := HQl.out; simp; omega)
              have hfq := hbq2.frozen j
              generalize (Q0.take (j + 1) ++ Qs).getD j 0 = oldq at hcq
              have hbZ3 : Blk (w2.setCell ⟨gq, j, none⟩ (.int .u64 (q - 1))) gu 43 ((Ul.take j ++ Z2) ++ Ul.drop (j + (k + 2 + 1))) := hbZ2.grown' (grownBy_set (i := j) (v := .int .u64 (q - 1)) (grownBy_refl w2 (some gq))) (Ne.symm d1)
              have hG2 : Gr2 gu gq w (w2.setCell ⟨gq, j, none⟩ (.int .u64 (q - 1))) := (hG1.trans (Gr2.of1 gZ2)).trans (Gr2.of2 (grownBy_set (i := j) (v := .int .u64 (q - 1)) (grownBy_refl w2 (some gq))))
              have HQ2 : Hid (((q - 1) :: Qs).length = lq - j) := (show _ = _ by rw [List.length_cons, HQs.out]; omega)
              have hQ2 := AllW.cons qmw hQsw
              have hjq : (j : Int) < (lq : Int) := by omega
              clear hsl f1 f2 l1 l2 hbq1 hbq2 hbZ hbZ2 hDr3 hw3 z3 Hfin Hlt Hv HQs hQsw hUlw hZ2v hZ2l hv0 hv1 HM HjM HZM hgZ2
              go_wp2
              go_roundw
              case rel => exact ⟨j, _, _, by omega, rfl, HL3, hUl4, HL1, HQ2, hQ2, HL2, hbZ3, hset, hG2⟩
              case measure => simp [intOf]
      · obtain rfl : j1 = 0 := by omega
        have hl := Hlt.out
        rw [List.drop_zero] at hl
        have hv := Hv.out
        rw [pw_zero, Int.mul_one] at hv
        rw [List.take_zero, List.nil_append] at hbq
        have HL1 : Hid (val Ul < D) := hl
        have HL2 : Hid (val Qs * D + val Ul = P2 s * val X) := hv
        have HL3 : Hid (Qs.length = lq) := (show _ = _ by rw [HQs.out, Nat.sub_zero])
        clear hl hv Hlt Hv HQs hj0 hj1
        go_wp2
        go_end0
        exact ⟨rfl, Qs, Ul, HL3.out, hQsw, HUl2.out, hUlw, by rw [HDD.out]; exact HL1.out, by rw [HDD.out]; exact HL2.out, hbq, hbu, hG⟩
end Go.Proofs.Qxb6003414a

/-
  THE WALK of ZZquoLong.
-/
import Derived.Test.Qxb6003414aQuoL
namespace Go.Proofs.Qxb6003414a
open Go Go.RowKit

set_option maxHeartbeats 1000000 in
/-- ZZquoLong. -/
theorem zzquoLong_any (gq lq cq gu m cu gw k cw : Nat) (Q0 X Dv : List Int) (x0 : Int) (s : Nat) (top v ts : Int) (w : World)
    (hq : Blk w gq 25 Q0) (hQl : Q0.length = lq) (hu : Blk w gu 25 (X ++ [x0])) (hXl : X.length = m) (hXw : AllW X)
    (hw : Blk w gw 25 Dv) (hDl : Dv.length = k + 2) (hDw : AllW Dv) (hm : m + 1 = lq + (k + 2)) (hlq : 1 ≤ lq) (hb : m ≤ 1048575)
    (htop : Dv.getD (k + 1) 0 = top) (R : Recip top v) (hs : s ≤ 63) (d1 : gq ≠ gu) :
    Calls Try.prog 30 #[.slice (some ⟨gq, 0, none⟩) lq cq, .slice (some ⟨gu, 0, none⟩) (m + 1) cu, .slice (some ⟨gw, 0, none⟩) (k + 2) cw, .int .u64 s, .int .u64 top, .int .u64 v, .int .u64 ts] w fun e w' => e = .returned (.tuple #[]) ∧
      ∃ Q U, Q.length = lq ∧ AllW Q ∧ U.length = m + 1 ∧ AllW U ∧ val U < val Dv ∧ val Q * val Dv + val U = P2 s * val X ∧ Blk w' gq 25 Q ∧ Blk w' gu 25 U ∧ Gr2 gu gq w w' := by
  have HQl : Hid (Q0.length = lq) := hQl
  have HXl : Hid (X.length = m) := hXl
  have HDl : Hid (Dv.length = k + 2) := hDl
  have Hm : Hid (m + 1 = lq + (k + 2)) := hm
  have Htop : Hid (Dv.getD (k + 1) 0 = top) := htop
  have hlq2 : lq ≤ 1048576 := by omega
  have hk2 : k + 2 ≤ 1048576 := by omega
  have lq0 := hq.lt
  have lu0 := hu.lt
  clear hQl hXl hDl hm htop
  go_enter Try.func30, Try.ntmps30
  go_wp2_with fail
  refine (toWords_blk gw (k + 2) cw 25 Dv _ hw HDl.out hk2).mono ?_
  rintro e w1 ⟨gw', rfl, hgw, hbw, hg1⟩
  go_wp2_with fail
  obtain ⟨wB, hwB⟩ : ∃ wB, wB = w1.alloc (Obj.cells #[.slice (some ⟨gw', 0, none⟩) ((k + 2 : Nat)) ((k + 2 : Nat)), .slice none 0 0, .int .u64 s, .int .u64 top, .int .u64 v, .int .u64 ts] 58) := ⟨_, rfl⟩
  have hDB : DvAt wB w1.heap.size gw' (k + 2) s top v ts := by rw [hwB]; exact heap_alloc_new w1 _
  have gB : w1.grownBy wB none := by rw [hwB]; exact World.grownBy_alloc _ _ _
  rw [← hwB]
  clear hwB
  have lD := hDB.lt
  have s1 := hg1.size
  have lw := hbw.lt
  replace hbw := hbw.grown0 gB
  have hqB := (hq.grown0 hg1).grown0 gB
  have huB := (hu.grown0 hg1).grown0 gB
  have g0 := grownBy_then0 hg1 gB
  clear hq hu hw hg1 gB
  refine (toWords_blk gq lq cq 25 Q0 _ hqB HQl.out hlq2).mono ?_
  rintro e w2 ⟨gq', rfl, hgq, hbq, hg2⟩
  have s2 := hg2.size
  have lq1 := hbq.lt
  replace hbw := hbw.grown0 hg2
  replace hDB := hDB.gr2 (Gr2.of0 (a := w.heap.size + w2.heap.size) (b := w.heap.size + w2.heap.size) hg2) (by omega) (by omega)
  replace hqB := hqB.grown0 hg2
  replace huB := huB.grown0 hg2
  replace g0 := grownBy_then0 g0 hg2
  clear hg2
  go_wp2_with fail
  refine (toWords_blk gu (m + 1) cu 25 (X ++ [x0]) _ huB (by simp [HXl.out]) (by omega)).mono ?_
  rintro e w3 ⟨gu', rfl, hgu, hbu, hg3⟩
  have s3 := hg3.size
  have lu1 := hbu.lt
  replace hbw := hbw.grown0 hg3
  replace hbq := hbq.grown0 hg3
  replace hDB := hDB.gr2 (Gr2.of0 (a := w.heap.size + w3.heap.size) (b := w.heap.size + w3.heap.size) hg3) (by omega) (by omega)
  replace hqB := hqB.grown0 hg3
  replace huB := huB.grown0 hg3
  replace g0 := grownBy_then0 g0 hg3
  clear hg3
  go_wp2_with fail
  refine (quoLong_any gq' lq lq gu' m (m + 1) w1.heap.size gw' k Q0 X Dv x0 s top v ts _ hbq HQl.out hbu HXl.out hXw (Nat.le_refl _) hDB hbw HDl.out hDw Hm.out hlq hb Htop.out R hs (by omega) (by omega) (by omega) (by omega) (by omega)).mono ?_
  rintro e w4 ⟨rfl, Q, U, hQl, hQw, hUl, hUw, hlt, hv, hbQ, hbU, g4⟩
  have HQ : Hid (Q.length = lq) := hQl
  have HU : Hid (U.length = m + 1) := hUl
  have Hv : Hid (val U < val Dv ∧ val Q * val Dv + val U = P2 s * val X) := ⟨hlt, hv⟩
  clear hQl hUl hlt hv
  have s4 := g4.size
  replace hqB := hqB.gr2 g4 (by omega) (by omega)
  replace huB := huB.gr2 g4 (by omega) (by omega)
  have G : Gr2 gu gq w w4 := Gr2.of0 ⟨g4.os.trans g0.os, g4.tape.trans g0.tape, g4.output.trans g0.output, Nat.le_trans g0.size g4.size, fun i hi _ => (g4.block i (by have := g0.size; omega) (by omega) (by omega)).trans (g0.block i hi (by simp))⟩
  clear g4 g0 hDB hbw hbq hbu
  go_wp2_with fail
  refine (store_any gq lq cq (some ⟨gq', 0, none⟩) lq Q0 Q _ hqB HQl.out (Rd.of_blk hbQ (by omega)) HQ.out hlq2).mono ?_
  rintro e w5 ⟨rfl, hq5, g5⟩
  have s5 := g5.size
  replace huB := huB.grown' g5 (by omega)
  replace hbU := hbU.grown' g5 (by omega)
  replace G := G.trans (Gr2.of2 g5)
  clear g5
  go_wp2_with fail
  refine (store_any gu (m + 1) cu (some ⟨gu', 0, none⟩) (m + 1) (X ++ [x0]) U _ huB (by simp [HXl.out]) (Rd.of_blk hbU (by omega)) HU.out (by omega)).mono ?_
  rintro e w6 ⟨rfl, hu6, g6⟩
  replace hq5 := hq5.grown' g6 (by omega)
  replace G := G.trans (Gr2.of1 g6)
  go_wp2_with fail
  go_end0
  exact ⟨rfl, Q, U, HQ.out, hQw, HU.out, hUw, Hv.out.1, Hv.out.2, hq5, hu6, G⟩
end Go.Proofs.Qxb6003414a

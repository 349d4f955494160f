/-
  MEMORY: rows of words. 'Blk w g t M': block g holds the words M, whole, nothing frozen. 'Rd w a no L': the slice address a reads as the words L, and lies in no block 'no'.
-/
import Derived.Test.Qxb6003414aNum
import Derived.WalkKit
import Derived.WalkSpells
import Derived.Laws.CopyOwn
import Derived.Deep.OwnRows
import Derived.Deep.Draws
namespace Go.Proofs.Qxb6003414a
open Go Go.RowKit

/-- The cells of a row of words. -/
def wcells (M : List Int) : Array Value := (M.map (Value.int .u64)).toArray
/-- Block g holds the words M, whole. -/
def Blk (w : World) (g : Nat) (t : TypeId) (M : List Int) : Prop := w.heap[g]? = some (.cells (wcells M) t (0, 0))

theorem size_wcells (M : List Int) : (wcells M).size = M.length := by simp [wcells]
theorem wcells_get (M : List Int) (i : Nat) (h : i < M.length) : (wcells M)[i]? = some (.int .u64 (M.getD i 0)) := by
  simp [wcells, h]
theorem wcells_set (M : List Int) (i : Nat) (v : Int) : (wcells M).setIfInBounds i (.int .u64 v) = wcells (M.set i v) := by
  simp [wcells]

section
variable {w w' w'' : World} {g : Nat} {t : TypeId} {M : List Int}

theorem Blk.lt (h : Blk w g t M) : g < w.heap.size := (Array.getElem?_eq_some_iff.1 h).1
theorem Blk.cell (h : Blk w g t M) (i : Nat) (hi : i < M.length) : w.cell? ⟨g, i, none⟩ = some (.int .u64 (M.getD i 0)) := by
  rw [cell_of_row w g i _ _ _ h, wcells_get M i hi]
theorem Blk.frozen (h : Blk w g t M) (i : Nat) : w.frozen? ⟨g, i, none⟩ = false := frozen_of_row w g i _ _ h
theorem Blk.set (h : Blk w g t M) (i : Nat) (v : Int) : Blk (w.setCell ⟨g, i, none⟩ (.int .u64 v)) g t (M.set i v) := by
  have := heap_setCell_same w g i _ t (.int .u64 v) h
  rw [wcells_set] at this
  exact this
theorem Blk.drew (h : Blk w g t M) : Blk w.drew g t M := h
theorem Blk.drewN (h : Blk w g t M) (n : Nat) : Blk (w.drewN n) g t M := h
theorem Blk.grown {row : Option Nat} (h : Blk w g t M) (hg : w.grownBy w' row) (hne : some g ≠ row) : Blk w' g t M := by
  unfold Blk; rw [hg.block g h.lt hne]; exact h
theorem Blk.alloc (h : Blk w g t M) (o : Obj) : Blk (w.alloc o) g t M := h.grown (World.grownBy_alloc w o none) (by simp)
theorem Blk.grown' {k : Nat} (h : Blk w g t M) (hg : w.grownBy w' (some k)) (hne : g ≠ k) : Blk w' g t M := h.grown hg (by simpa using hne)
theorem Blk.grown0 (h : Blk w g t M) (hg : w.grownBy w' none) : Blk w' g t M := h.grown hg (by simp)

theorem grownBy_refl (w : World) (row : Option Nat) : w.grownBy w row := ⟨rfl, rfl, rfl, Nat.le_refl _, fun _ _ _ => rfl⟩
theorem grownBy_trans {row : Option Nat} (h : w.grownBy w' row) (k : w'.grownBy w'' row) : w.grownBy w'' row :=
  ⟨k.os.trans h.os, k.tape.trans h.tape, k.output.trans h.output, Nat.le_trans h.size k.size, fun i hi hr => (k.block i (Nat.lt_of_lt_of_le hi h.size) hr).trans (h.block i hi hr)⟩
theorem grownBy_drew {row : Option Nat} (h : w.grownBy w' row) : w.grownBy w'.drew row := ⟨h.os, h.tape, h.output, h.size, h.block⟩
theorem grownBy_drewN {row : Option Nat} (h : w.grownBy w' row) (n : Nat) : w.grownBy (w'.drewN n) row := ⟨h.os, h.tape, h.output, h.size, h.block⟩
theorem grownBy_weak {row : Option Nat} (h : w.grownBy w' none) : w.grownBy w' row := ⟨h.os, h.tape, h.output, h.size, fun i hi _ => h.block i hi (by simp)⟩
theorem grownBy_set {k i : Nat} {v : Value} (h : w.grownBy w' (some k)) : w.grownBy (w'.setCell ⟨k, i, none⟩ v) (some k) :=
  grownBy_trans h ⟨rfl, rfl, rfl, by simp [World.setCell], fun j _ hr => heap_setCell_other _ _ _ _ (fun e => hr (by rw [e]))⟩
/-- What is written is new: nothing old has turned. -/
theorem grownBy_new {k : Nat} (h : w.grownBy w' (some k)) (hk : w.heap.size ≤ k) : w.grownBy w' none :=
  ⟨h.os, h.tape, h.output, h.size, fun i hi _ => h.block i hi (by simp; omega)⟩
/-- A step that writes a block that is new, seen from an earlier world. -/
theorem grownBy_then {k : Nat} {row : Option Nat} (h : w.grownBy w' row) (h2 : w'.grownBy w'' (some k)) (hk : w.heap.size ≤ k) : w.grownBy w'' row :=
  ⟨h2.os.trans h.os, h2.tape.trans h.tape, h2.output.trans h.output, Nat.le_trans h.size h2.size, fun i hi hr => (h2.block i (Nat.lt_of_lt_of_le hi h.size) (by simp; omega)).trans (h.block i hi hr)⟩
theorem grownBy_then0 {row : Option Nat} (h : w.grownBy w' row) (h2 : w'.grownBy w'' none) : w.grownBy w'' row := grownBy_trans h (grownBy_weak h2)
theorem below_of_grown (h : w.grownBy w' none) : Below w.heap.size w w' := ⟨h.os, h.tape, h.output, h.size, fun k hk => h.block k hk (by simp)⟩
end

/-- The slice address a reads as the words L; it lies outside block 'no'. -/
def Rd (w : World) (a : Option Addr) (no : Nat) (L : List Int) : Prop :=
  ∀ i, i < L.length → ∃ g o, a = some ⟨g, o, none⟩ ∧ g ≠ no ∧ w.cell? ⟨g, o + i, none⟩ = some (.int .u64 (L.getD i 0))

section
variable {w w' : World} {a : Option Addr} {no : Nat} {L : List Int}
theorem Rd.grown (h : Rd w a no L) (hg : w.grownBy w' (some no)) : Rd w' a no L := by
  intro i hi
  obtain ⟨g, o, e, hn, hc⟩ := h i hi
  exact ⟨g, o, e, hn, hg.cell hc (by simpa using hn)⟩
theorem Rd.grown0 (h : Rd w a no L) (hg : w.grownBy w' none) : Rd w' a no L := h.grown (grownBy_weak hg)
theorem Rd.nil : Rd w a no [] := fun i hi => by simp at hi
/-- Of a row known whole. -/
theorem Rd.of_blk {g : Nat} {t : TypeId} {M : List Int} (h : Blk w g t M) (hn : g ≠ no) : Rd w (some ⟨g, 0, none⟩) no M :=
  fun i hi => ⟨g, 0, rfl, hn, by rw [Nat.zero_add]; exact h.cell i hi⟩
theorem getD_take (M : List Int) (n i : Nat) (h : i < n) : (M.take n).getD i 0 = M.getD i 0 := by
  simp [List.getD, h]
theorem Rd.take (h : Rd w a no L) (n : Nat) : Rd w a no (L.take n) := by
  intro i hi
  have hi' : i < n ∧ i < L.length := by simp at hi; omega
  obtain ⟨g, o, e, hn, hc⟩ := h i hi'.2
  exact ⟨g, o, e, hn, by rw [getD_take L n i hi'.1]; exact hc⟩
/-- Outside a block that is not there yet. -/
theorem Rd.fresh {no' : Nat} (h : Rd w a no L) (hn : w.heap.size ≤ no') : Rd w a no' L := by
  intro i hi
  obtain ⟨g, o, e, _, hc⟩ := h i hi
  have := World.block_lt_of_cell? w _ hc
  exact ⟨g, o, e, by simp at this; omega, hc⟩
/-- Outside another block. -/
theorem Rd.other {no' : Nat} (h : Rd w a no L) (hn : ∀ g o, a = some ⟨g, o, none⟩ → g ≠ no') : Rd w a no' L := by
  intro i hi
  obtain ⟨g, o, e, _, hc⟩ := h i hi
  exact ⟨g, o, e, hn g o e, hc⟩
end

/-! ### make and copy as laws for the walk -/
theorem made_zeros (n : Nat) : madeCells #[.int .u64 0] n = wcells (List.replicate n 0) := by
  apply Array.ext'
  rw [toList_madeCells_one]
  simp [wcells]

theorem wpList_mk {P : Program} {w : World} {ops : Array Oper} {rest : List Oper} {o : Oper} {a : Act} {Q : Exit → Act → World → Prop}
    (hg : o.guard = none) (l c : Operand) (t : TypeId) (hop : o.op = Op.makeSlice t l c)
    (e : TypeId) (ht : P.underlying t = some (.slice e)) (hinfo : (P.info? e).map (fun i => (i.zero, i.size, i.bytes)) = some (some (.int .u64 0), 1, 8))
    (N : Int) (n : Nat) (hl : a.eval l = .int .i64 N) (hc : a.eval c = .int .i64 N) (hN : N = (n : Int)) (hb : n ≤ 1048576)
    (hK : ∀ w', Blk w' w.heap.size e (List.replicate n 0) → w.grownBy w' none → wpList P ops Q rest (a.put o.dst (.slice (some ⟨w.heap.size, 0, none⟩) n n)) w') :
    wpList P ops Q (o :: rest) a w := by
  subst hN
  refine wpList_plain hg fun K hK' => ?_
  have hrun := run_make_row' (P := P) t e (.int .u64 0) 8 ht hinfo rfl .i64 .i64 n (by omega) (by omega) w
  unfold Oper.wp
  simp [execOp, hop, hl, hc, hrun, Result.andThen]
  refine hK' _ _ (hK _ ?_ (World.grownBy_alloc w _ none))
  unfold Blk
  rw [made_zeros]
  exact heap_alloc_new w _

theorem grownBy_setRow (w : World) (g : Nat) (cs : Array Value) : w.grownBy (w.setRow g cs) (some g) :=
  ⟨rfl, rfl, rfl, by simp [World.setRow], fun k _ hr => setRow_other w g k cs (by intro e; exact hr (by rw [e]))⟩

/-- 'copy' into a row known whole, as a run equation with a world of its own. -/
theorem run_cp {P : Program} {w : World} (dT sT ty : TypeId) (elem : TypeId) (hu : P.underlying dT = some (.slice elem)) (hsz : (P.info? elem).map (·.size) = some 1)
    (g : Nat) (sp : Option Addr) (dLen dCap sLen sCap : Nat)
    (t : TypeId) (M : List Int) (hM : Blk w g t M) (hMl : M.length = dLen) (no : Nat) (L : List Int) (hL : Rd w sp no L) (hLl : L.length = sLen) :
    ∃ w', (Builtin.copy_ #[dT, sT] ty #[.slice (some ⟨g, 0, none⟩) dLen dCap, .slice sp sLen sCap]).run P w = .ok (goInt (L.take dLen).length) w' ∧
      Blk w' g t (L.take dLen ++ M.drop sLen) ∧ w.grownBy w' (some g) := by
  subst hMl; subst hLl
  by_cases h0 : (L.take M.length).length = 0
  · have h0' : Nat.min L.length M.length = 0 := by show min L.length M.length = 0; rw [List.length_take] at h0; omega
    have hr := run_copy_none (P := P) w dT sT ty elem (some ⟨g, 0, none⟩) sp M.length dCap L.length sCap hu hsz h0'
    have e : L.take M.length ++ M.drop L.length = M := by
      rw [List.eq_nil_of_length_eq_zero h0, List.nil_append]
      by_cases hl0 : L.length = 0
      · rw [hl0, List.drop_zero]
      · have : M.length = 0 := by rw [List.length_take] at h0; omega
        rw [List.eq_nil_of_length_eq_zero this]; simp
    exact ⟨w, by rw [hr, h0]; rfl, by rw [e]; exact hM, grownBy_refl _ _⟩
  · have hpos : 0 < L.length ∧ 0 < M.length := by rw [List.length_take] at h0; omega
    obtain ⟨gs, os, rfl, _, _⟩ := hL 0 hpos.1
    have hcs : ((L.take M.length).map (Value.int .u64)).length = Nat.min L.length M.length := by show _ = min L.length M.length; rw [List.length_map, List.length_take]; omega
    have hr := run_copy_row (P := P) w dT sT ty elem g 0 M.length dCap ⟨gs, os, none⟩ L.length sCap (wcells M) t ((L.take M.length).map (Value.int .u64)) hu hsz hM hcs ?_ ?_ ?_
    · have e : (L.take M.length).length = ((L.take M.length).map (Value.int .u64)).length := by simp
      rw [e]
      refine ⟨_, hr, ?_, grownBy_setRow w g _⟩
      unfold Blk
      rw [setRow_heap w g (wcells M) _ t (0, 0) hM]
      congr 2
      unfold wcells
      congr 1
      simp only [List.take_zero, List.nil_append, Nat.zero_add, List.map_append, List.map_drop, List.length_map]
      congr 1
      by_cases hh : L.length ≤ M.length
      · rw [List.length_take, Nat.min_eq_right hh]
      · rw [List.length_take, Nat.min_eq_left (by omega), List.drop_of_length_le (by simp), List.drop_of_length_le (by simp; omega)]
    · intro j v hv
      have hj : j < L.length ∧ j < M.length := by
        have := (List.getElem?_eq_some_iff.1 hv).1
        rw [List.length_map, List.length_take] at this; omega
      obtain ⟨g1, o1, e1, _, hc⟩ := hL j hj.1
      simp only [Option.some.injEq, Addr.mk.injEq] at e1
      obtain ⟨rfl, rfl, _⟩ := e1
      have e2 : (⟨gs, os, none⟩ : Addr).add j = ⟨gs, os + j, none⟩ := by unfold Addr.add; split <;> simp_all
      rw [e2, hc, ← hv]
      simp [hj.1, hj.2]
    · rw [size_wcells, List.length_map, List.length_take]; omega
    · intro v hv
      simp only [List.mem_map] at hv
      obtain ⟨n, _, rfl⟩ := hv
      rfl
end Go.Proofs.Qxb6003414a

/-
  THE HELPERS' WALKS: zzClone, zzToWords, zzStore, zzEq, zzTrim.
-/
import Derived.Test.Qxb6003414aRows
import Derived.Test.Qxb6003414aMem
import Derived.WalkKit
import Derived.WalkSpells
import Derived.Lib.SliceRun
import Derived.Deep.QuietTactic
import Derived.BigQuiet
namespace Go.Proofs.Qxb6003414a
open Go Go.RowKit

theorem info25 : (Try.prog.info? 25).map (fun i => (i.zero, i.size, i.bytes)) = some (some (.int .u64 0), 1, 8) := by kernel_rfl
theorem info43 : (Try.prog.info? 43).map (fun i => (i.zero, i.size, i.bytes)) = some (some (.int .u64 0), 1, 8) := by kernel_rfl
theorem size25 : (Try.prog.info? 25).map (·.size) = some 1 := by kernel_rfl

/-- A slice of the call's own: nil, or a row known whole from block 'lo' on. -/
def Own (w : World) (t : TypeId) (lo : Nat) (a : Option Addr) (L : List Int) : Prop :=
  (a = none ∧ L = []) ∨ ∃ g, a = some ⟨g, 0, none⟩ ∧ lo ≤ g ∧ Blk w g t L
section
variable {w w' : World} {t : TypeId} {lo : Nat} {a : Option Addr} {L : List Int}
theorem Own.grown0 (h : Own w t lo a L) (hg : w.grownBy w' none) : Own w' t lo a L := by
  rcases h with h | ⟨g, e, hl, hb⟩
  · exact .inl h
  · exact .inr ⟨g, e, hl, hb.grown0 hg⟩
theorem Own.grown {k : Nat} (h : Own w t lo a L) (hg : w.grownBy w' (some k)) (hne : ∀ g, a = some ⟨g, 0, none⟩ → g ≠ k) : Own w' t lo a L := by
  rcases h with h | ⟨g, e, hl, hb⟩
  · exact .inl h
  · exact .inr ⟨g, e, hl, hb.grown' hg (hne g e)⟩
theorem Own.lt (h : Own w t lo a L) : ∀ g o, a = some ⟨g, o, none⟩ → lo ≤ g ∧ g < w.heap.size := by
  intro g o e
  rcases h with ⟨e', _⟩ | ⟨g', e', hl, hb⟩
  · rw [e] at e'; cases e'
  · rw [e] at e'; simp at e'; rw [e'.1]; exact ⟨hl, hb.lt⟩
theorem Own.rd (h : Own w t lo a L) {no : Nat} (hne : ∀ g o, a = some ⟨g, o, none⟩ → g ≠ no) : Rd w a no L := by
  rcases h with ⟨_, rfl⟩ | ⟨g, rfl, hl, hb⟩
  · exact Rd.nil
  · exact Rd.of_blk hb (hne g 0 rfl)
theorem Own.rd_fresh (h : Own w t lo a L) {no : Nat} (hn : w.heap.size ≤ no) : Rd w a no L :=
  h.rd fun g o e => by have := h.lt g o e; omega
theorem Own.mono {lo' : Nat} (h : Own w t lo a L) (hl : lo' ≤ lo) : Own w t lo' a L := by
  rcases h with h | ⟨g, e, hlg, hb⟩
  · exact .inl h
  · exact .inr ⟨g, e, by omega, hb⟩
theorem Own.blk (h : Own w t lo a L) (hL : L ≠ []) : ∃ g, a = some ⟨g, 0, none⟩ ∧ lo ≤ g ∧ Blk w g t L := by
  rcases h with ⟨_, rfl⟩ | h
  · exact absurd rfl hL
  · exact h
end

/-- zzClone. -/
theorem clone_any (a : Option Addr) (n c : Nat) (no : Nat) (L : List Int) (w : World) (hL : Rd w a no L) (hn : L.length = n) (hnil : a = none → n = 0) (hb : n ≤ 1048576) :
    Calls Try.prog 11 #[.slice a n c] w fun e w' => ∃ a', e = .returned (.slice a' n n) ∧ Own w' 25 w.heap.size a' L ∧ w.grownBy w' none := by
  have q22 : ∀ (w : World) (a : Option Addr) (n c n' c' : Nat), (binOp .eql 22 (.slice a n c) (.slice none n' c')).run Try.prog w = .ok (.bool a.isNone) w := fun w a n c n' c' => Lib.run_eql_slice_nil w _ _ a n c n' c' Try.underlying22
  cases a with
  | none =>
    obtain rfl : n = 0 := hnil rfl
    go_enter Try.func11, Try.ntmps11
    go_wp2
    go_ret
    exact ⟨none, rfl, .inl ⟨rfl, List.eq_nil_of_length_eq_zero hn⟩, grownBy_refl _ _⟩
  | some ad =>
    clear hnil
    have hnn : n ≤ 9223372036854775807 := by omega
    go_enter Try.func11, Try.ntmps11
    go_wp2_with (at_make; refine wpList_mk rfl _ _ 22 rfl 25 Try.underlying22 info25 _ n rfl rfl rfl hb ?_; intro w1 hb1 hg1; obtain ⟨w2, hr2, hb2, hg2⟩ := run_cp (P := Try.prog) 22 22 3 25 Try.underlying22 size25 w.heap.size (some ad) n n n c 25 _ hb1 (by simp) no L (hL.grown0 hg1) hn; clear hL hb1)
    go_ret
    refine ⟨_, rfl, .inr ⟨_, rfl, Nat.le_refl _, ?_⟩, grownBy_then hg1 hg2 (Nat.le_refl _)⟩
    rw [List.take_of_length_le (by omega), List.drop_of_length_le (by simp), List.append_nil] at hb2
    exact hb2

/-- A row filled from its front: k cells laid, the rest as it was. -/
theorem fill_step (L Z : List Int) (k : Nat) (hk : k < Z.length) (hl : k < L.length) :
    (L.take k ++ Z.drop k).set k (L.getD k 0) = L.take (k + 1) ++ Z.drop (k + 1) := by
  have e : L.getD k 0 = L[k] := by simp [List.getD, List.getElem?_eq_getElem hl]
  rw [e, List.take_succ_eq_append_getElem hl, List.drop_eq_getElem_cons hk]
  have h1 : (L.take k).length = k := by simp; omega
  rw [List.set_append, if_neg (by omega), h1, Nat.sub_self, List.set_cons_zero, List.append_assoc]
  rfl

set_option maxHeartbeats 400000 in
/-- zzToWords. -/
theorem toWords_any (a : Option Addr) (n c : Nat) (no : Nat) (L : List Int) (w : World) (hL : Rd w a no L) (hn : L.length = n) (hnil : a = none → n = 0) (hb : n ≤ 1048576) :
    Calls Try.prog 31 #[.slice a n c] w fun e w' => ∃ a', e = .returned (.slice a' n n) ∧ Own w' 43 w.heap.size a' L ∧ (a ≠ none → a' ≠ none) ∧ w.grownBy w' none := by
  have q22 : ∀ (w : World) (a : Option Addr) (n c n' c' : Nat), (binOp .eql 22 (.slice a n c) (.slice none n' c')).run Try.prog w = .ok (.bool a.isNone) w := fun w a n c n' c' => Lib.run_eql_slice_nil w _ _ a n c n' c' Try.underlying22
  cases a with
  | none =>
    obtain rfl : n = 0 := hnil rfl
    go_enter Try.func31, Try.ntmps31
    go_wp2
    go_ret
    exact ⟨none, rfl, .inl ⟨rfl, List.eq_nil_of_length_eq_zero hn⟩, grownBy_refl _ _⟩
  | some ad =>
    clear hnil
    have hnn : n ≤ 9223372036854775807 := by omega
    go_enter Try.func31, Try.ntmps31
    go_wp2_with (at_make; refine wpList_mk rfl _ _ 41 rfl 43 Try.underlying41 info43 _ n rfl rfl rfl hb ?_; intro w1 hb1 hg1)
    go_loopw [4] (fun i wr => ∃ k : Nat, k ≤ n ∧ i = .int .i64 k ∧ Blk wr w.heap.size 43 (L.take k ++ (List.replicate n 0).drop k) ∧ w.grownBy wr none) (fun i _ => n - (intOf i).toNat)
    case atStart => exact ⟨0, Nat.zero_le _, rfl, by simpa using hb1, hg1⟩
    case round =>
      obtain ⟨k, hk, rfl, hbk, hgk⟩ := hrel
      clear hb1 hg1
      by_cases hlt : k < n
      · obtain ⟨g, o, he, _, hc⟩ := hL.grown0 hgk k (by omega)
        obtain rfl := Option.some.inj he
        have hf := hbk.frozen k
        obtain ⟨v, hv⟩ : ∃ v, v = L.getD k 0 := ⟨_, rfl⟩
        have hold : wr.cell? ⟨w.heap.size, k, none⟩ = some (.int .u64 ((L.take k ++ (List.replicate n 0).drop k).getD k 0)) := hbk.cell k (by simp; omega)
        have hb2 := hbk.set k v
        rw [hv, fill_step L (List.replicate n 0) k (by simpa using hlt) (by omega), ← hv] at hb2
        rw [← hv] at hc
        have Hn : Hid (L.length = n) := hn
        clear hbk hv hn he hL q22
        generalize (L.take k ++ (List.replicate n 0).drop k).getD k 0 = old at hold
        have hg2 : w.grownBy (wr.setCell ⟨w.heap.size, k, none⟩ (.int .u64 v)) none := grownBy_new (grownBy_set (grownBy_weak hgk)) (Nat.le_refl _)
        go_wp2
        go_roundw
        case rel => exact ⟨k + 1, by omega, by go_num, hb2, hg2⟩
        case measure => simp [intOf]; omega
      · go_wp2
        go_ret
        have e : k = n := by omega
        subst e
        refine ⟨_, rfl, .inr ⟨_, rfl, Nat.le_refl _, ?_⟩, fun _ => by simp, hgk⟩
        rw [List.take_of_length_le (by omega), List.drop_of_length_le (by simp), List.append_nil] at hbk
        exact hbk

set_option maxHeartbeats 400000 in
/-- zzStore, both of one length. -/
theorem store_any (gd n c : Nat) (sa : Option Addr) (cs : Nat) (M S : List Int) (w : World) (hM : Blk w gd 25 M) (hMl : M.length = n) (hS : Rd w sa gd S) (hSl : S.length = n) (hb : n ≤ 1048576) :
    Calls Try.prog 33 #[.slice (some ⟨gd, 0, none⟩) n c, .slice sa n cs] w fun e w' => e = .returned (.tuple #[]) ∧ Blk w' gd 25 S ∧ w.grownBy w' (some gd) := by
  have hnn : n ≤ 9223372036854775807 := by omega
  go_enter Try.func33, Try.ntmps33
  go_wp2
  go_loopw [4] (fun i wr => ∃ k : Nat, k ≤ n ∧ i = .int .i64 k ∧ Blk wr gd 25 (S.take k ++ M.drop k) ∧ w.grownBy wr (some gd)) (fun i _ => n - (intOf i).toNat)
  case atStart => exact ⟨0, Nat.zero_le _, rfl, by simpa using hM, grownBy_refl _ _⟩
  case round =>
    obtain ⟨k, hk, rfl, hbk, hgk⟩ := hrel
    by_cases hlt : k < n
    · obtain ⟨g, o, he, _, hc⟩ := hS.grown hgk k (by omega)
      subst he
      have hf := hbk.frozen k
      obtain ⟨v, hv⟩ : ∃ v, v = S.getD k 0 := ⟨_, rfl⟩
      have hold : wr.cell? ⟨gd, k, none⟩ = some (.int .u64 ((S.take k ++ M.drop k).getD k 0)) := hbk.cell k (by simp; omega)
      have hb2 := hbk.set k v
      rw [hv, fill_step S M k (by omega) (by omega), ← hv] at hb2
      rw [← hv] at hc
      clear hbk hv hSl hMl hS hM
      generalize (S.take k ++ M.drop k).getD k 0 = old at hold
      have hg2 : w.grownBy (wr.setCell ⟨gd, k, none⟩ (.int .u64 v)) (some gd) := grownBy_set hgk
      go_wp2
      go_roundw
      case rel => exact ⟨k + 1, by omega, by go_num, hb2, hg2⟩
      case measure => simp [intOf]; omega
    · have hd : decide ((k : Int) < (n : Int)) = false := decide_eq_false (by omega)
      go_wp2
      go_end0
      have e : k = n := by omega
      subst e
      rw [List.take_of_length_le (by omega), List.drop_of_length_le (by omega), List.append_nil] at hbk
      exact ⟨rfl, hbk, hgk⟩

/-- Equality of two lists of words, under a name. -/
def eqB (L M : List Int) : Bool := decide (L = M)
theorem getD_of_lt (L : List Int) (k : Nat) (h : k < L.length) : L.getD k 0 = L[k] := by simp [List.getD, List.getElem?_eq_getElem h]
theorem eqB_of_ne_at {L M : List Int} (k : Nat) (h : L.getD k 0 ≠ M.getD k 0) : eqB L M = false := decide_eq_false (fun e => h (by rw [e]))
theorem take_eq_step {L M : List Int} {k n : Nat} (hl : L.length = n) (hm : M.length = n) (h : L.take k = M.take k) (hk : k < n) (e : L.getD k 0 = M.getD k 0) : L.take (k + 1) = M.take (k + 1) := by
  rw [getD_of_lt L k (by omega), getD_of_lt M k (by omega)] at e
  rw [List.take_succ_eq_append_getElem (by omega), List.take_succ_eq_append_getElem (by omega), h, e]

set_option maxHeartbeats 400000 in
/-- zzEq. -/
theorem eq_any (a : Option Addr) (n c : Nat) (b : Option Addr) (m d : Nat) (no : Nat) (L M : List Int) (w : World) (hL : Rd w a no L) (hLl : L.length = n) (hM : Rd w b no M) (hMl : M.length = m) (hb : n ≤ 1048576) :
    Calls Try.prog 14 #[.slice a n c, .slice b m d] w fun e w' => e = .returned (.bool (eqB L M)) ∧ w.grownBy w' none := by
  by_cases hnm : n = m
  · subst hnm
    have hnn : n ≤ 9223372036854775807 := by omega
    go_enter Try.func14, Try.ntmps14
    go_wp2
    go_loopw [5] (fun i wr => ∃ k : Nat, k ≤ n ∧ i = .int .i64 k ∧ Hid (L.take k = M.take k) ∧ w.grownBy wr none) (fun i _ => n - (intOf i).toNat)
    case atStart => exact ⟨0, Nat.zero_le _, rfl, (show L.take 0 = M.take 0 by simp), grownBy_refl _ _⟩
    case round =>
      obtain ⟨k, hk, rfl, Hk, hgk⟩ := hrel
      by_cases hlt : k < n
      · obtain ⟨g, o, he, _, hc⟩ := hL.grown0 hgk k (by omega)
        subst he
        obtain ⟨g2, o2, he, _, hc2⟩ := hM.grown0 hgk k (by omega)
        subst he
        obtain ⟨x, hx⟩ : ∃ x, x = L.getD k 0 := ⟨_, rfl⟩
        obtain ⟨y, hy⟩ : ∃ y, y = M.getD k 0 := ⟨_, rfl⟩
        rw [← hx] at hc
        rw [← hy] at hc2
        have hlt' : (k : Int) < (n : Int) := by omega
        by_cases hxy : x = y
        · have H2 : Hid (L.take (k + 1) = M.take (k + 1)) := take_eq_step hLl hMl Hk.out hlt (by rw [← hx, ← hy]; exact hxy)
          have hne : (x != y) = false := by simp [hxy]
          clear hx hy hxy hL hM hLl hMl Hk
          go_wp2
          go_quiet (fail)
          go_wp2
          go_roundw
          case rel => exact ⟨k + 1, by omega, by go_num, H2, grownBy_drewN hgk _⟩
          case measure => simp [intOf]; omega
        · have he : eqB L M = false := eqB_of_ne_at k (by rw [← hx, ← hy]; exact hxy)
          have hne : (x != y) = true := by simp [hxy]
          clear hx hy hxy hL hM hLl hMl Hk
          go_wp2
          go_quiet (fail)
          go_wp2
          go_ret
          exact ⟨by rw [he]; rfl, grownBy_drewN hgk _⟩
      · have e : k = n := by omega
        have he : eqB L M = true := by
          have h := Hk.out
          rw [List.take_of_length_le (by omega), List.take_of_length_le (by omega)] at h
          exact decide_eq_true h
        clear Hk
        go_wp2
        go_ret
        exact ⟨by rw [he]; rfl, hgk⟩
  · have he : eqB L M = false := decide_eq_false (fun e => hnm (by rw [← hLl, ← hMl, e]))
    have hne : ((n : Int) != (m : Int)) = true := by rw [bne_iff_ne]; omega
    go_enter Try.func14, Try.ntmps14
    go_wp2
    go_ret
    exact ⟨by rw [he]; rfl, grownBy_refl _ _⟩

/-- A slice that can be read as the words L, wherever it lies. -/
def In (w : World) (a : Option Addr) (L : List Int) : Prop := (a = none → L = []) ∧ Rd w a w.heap.size L
section
variable {w w' : World} {t : TypeId} {lo : Nat} {a : Option Addr} {L : List Int}
theorem Own.inn (h : Own w t lo a L) : In w a L := by
  refine ⟨fun e => ?_, h.rd_fresh (Nat.le_refl _)⟩
  rcases h with ⟨_, h⟩ | ⟨g, e', _⟩
  · exact h
  · rw [e] at e'; cases e'
theorem Blk.inn {g : Nat} {M : List Int} (h : Blk w g t M) : In w (some ⟨g, 0, none⟩) M := ⟨(fun e => by cases e), Rd.of_blk h (Nat.ne_of_lt h.lt)⟩
theorem In.take (h : In w a L) (n : Nat) : In w a (L.take n) := ⟨(fun e => by rw [h.1 e]; simp), h.2.take n⟩
theorem In.grown0 (h : In w a L) (hg : w.grownBy w' none) : In w' a L := by
  refine ⟨h.1, ?_⟩
  exact (h.2.fresh (no' := w'.heap.size) hg.size).grown0 hg
theorem In.rd (h : In w a L) {no : Nat} (hn : w.heap.size ≤ no) : Rd w a no L := h.2.fresh hn
end

theorem toWords_in (a : Option Addr) (n c : Nat) (L : List Int) (w : World) (hL : In w a L) (hn : L.length = n) (hb : n ≤ 1048576) :
    Calls Try.prog 31 #[.slice a n c] w fun e w' => ∃ a', e = .returned (.slice a' n n) ∧ Own w' 43 w.heap.size a' L ∧ w.grownBy w' none :=
  (toWords_any a n c w.heap.size L w hL.2 hn (fun e => by rw [← hn, hL.1 e]; rfl) hb).mono fun e w' ⟨a', h1, h2, _, h3⟩ => ⟨a', h1, h2, h3⟩
theorem toWords_blk (g n c : Nat) (t : TypeId) (L : List Int) (w : World) (hL : Blk w g t L) (hn : L.length = n) (hb : n ≤ 1048576) :
    Calls Try.prog 31 #[.slice (some ⟨g, 0, none⟩) n c] w fun e w' => ∃ g', e = .returned (.slice (some ⟨g', 0, none⟩) n n) ∧ w.heap.size ≤ g' ∧ Blk w' g' 43 L ∧ w.grownBy w' none := by
  refine (toWords_any (some ⟨g, 0, none⟩) n c w.heap.size L w hL.inn.2 hn (fun e => by cases e) hb).mono ?_
  rintro e w' ⟨a', h1, h2, h4, h3⟩
  rcases h2 with ⟨e', _⟩ | ⟨g', rfl, hl, hbk⟩
  · exact absurd e' (h4 (by simp))
  · exact ⟨g', h1, hl, hbk, h3⟩
theorem clone_in (a : Option Addr) (n c : Nat) (L : List Int) (w : World) (hL : In w a L) (hn : L.length = n) (hb : n ≤ 1048576) :
    Calls Try.prog 11 #[.slice a n c] w fun e w' => ∃ a', e = .returned (.slice a' n n) ∧ Own w' 25 w.heap.size a' L ∧ w.grownBy w' none :=
  clone_any a n c w.heap.size L w hL.2 hn (fun e => by rw [← hn, hL.1 e]; rfl) hb
theorem eq_in (a : Option Addr) (n c : Nat) (b : Option Addr) (m d : Nat) (L M : List Int) (w : World) (hL : In w a L) (hLl : L.length = n) (hM : In w b M) (hMl : M.length = m) (hb : n ≤ 1048576) :
    Calls Try.prog 14 #[.slice a n c, .slice b m d] w fun e w' => e = .returned (.bool (eqB L M)) ∧ w.grownBy w' none :=
  eq_any a n c b m d w.heap.size L M w hL.2 hLl hM.2 hMl hb

/-- WHAT THE WALK IS TOLD OF A SLICE OF INTEGERS THAT CAME IN (the shell's own words). -/
def IsRow (k : IntKind) (w : World) (a : Option Addr) (len cap : Nat) (zs : List Int) : Prop :=
  (a = none ∧ len = 0 ∧ cap = 0 ∧ zs = []) ∨
  ∃ x, a = some x ∧ len ≤ cap ∧ cap ≤ maxLen ∧ zs.length = cap ∧ (∀ i, i < zs.length → w.cell? (x.add i) = some (.int k (zs.getD i 0))) ∧ ∀ n ∈ zs, (Lit.int k n).wf = true

theorem w64_of_wf {x : Int} (h : (Lit.int .u64 x).wf = true) : W64 x := by
  simp [Lit.wf, IntKind.min, IntKind.max, IntKind.signed, IntKind.bits] at h
  exact ⟨by omega, by omega⟩

theorem isRow_in {w : World} {a : Option Addr} {len cap : Nat} {zs : List Int} (h : IsRow .u64 w a len cap zs) :
    In w a (zs.take len) ∧ (zs.take len).length = len ∧ AllW (zs.take len) ∧ len ≤ maxLen := by
  rcases h with ⟨rfl, rfl, rfl, rfl⟩ | ⟨x, rfl, hl, hm, hz, hc, hwf⟩
  · exact ⟨⟨(fun _ => by simp), (fun i hi => by simp at hi)⟩, by simp, (fun x hx => by simp at hx), by simp⟩
  · refine ⟨⟨(fun e => by cases e), ?_⟩, by simp; omega, (fun x hx => w64_of_wf (hwf x (List.mem_of_mem_take hx))), by omega⟩
    intro i hi
    have hi' : i < len ∧ i < zs.length := by simp at hi; omega
    obtain ⟨b, off, spot⟩ := x
    have hspot : spot = none := by simpa [Addr.add] using World.cell?_spot (hc 0 (by omega))
    subst hspot
    have e : (⟨b, off, none⟩ : Addr).add i = ⟨b, off + i, none⟩ := by unfold Addr.add; split <;> simp_all
    have hci := hc i hi'.2
    rw [e] at hci
    refine ⟨b, off, rfl, ?_, by rw [getD_take zs len i hi'.1]; exact hci⟩
    have := World.block_lt_of_cell? w _ hci
    simp at this; omega

theorem bytes17 (a b : Option Addr) (n m c d : Nat) (w : World) (hn : n ≤ 1024) (hm : m ≤ 1024) :
    Calls Try.prog 17 #[.slice a n c, .slice b m d] w fun e w' => e = .returned (.bool true) ∧ w' = w := by
  go_enter Try.func17, Try.ntmps17
  go_wp2
  go_ret
  exact ⟨rfl, rfl⟩
theorem bytes10 (a b : Option Addr) (n m c d : Nat) (w : World) (hn : n ≤ 1024) (hm : m ≤ 1024) :
    Calls Try.prog 10 #[.slice a n c, .slice b m d] w fun e w' => e = .returned (.bool true) ∧ w' = w := by
  go_enter Try.func10, Try.ntmps10
  go_wp2
  go_ret
  exact ⟨rfl, rfl⟩
theorem bytes29 (a b : Option Addr) (n m c d : Nat) (w : World) (hn : n ≤ 1024) (hm : m ≤ 1024) :
    Calls Try.prog 29 #[.slice a n c, .slice b m d] w fun e w' => e = .returned (.bool true) ∧ w' = w := by
  go_enter Try.func29, Try.ntmps29
  go_wp2
  go_ret
  exact ⟨rfl, rfl⟩
theorem bytes19 (a b : Option Addr) (n m c d : Nat) (q : Int) (w : World) (hn : n ≤ 1024) (hm : m ≤ 1024) :
    Calls Try.prog 19 #[.slice a n c, .slice b m d, .int .u64 q] w fun e w' => e = .returned (.bool true) ∧ w' = w := by
  go_enter Try.func19, Try.ntmps19
  go_wp2
  go_ret
  exact ⟨rfl, rfl⟩
theorem bytes21 (a : Option Addr) (n c : Nat) (q : Int) (w : World) (hn : n ≤ 1024) :
    Calls Try.prog 21 #[.slice a n c, .int .u64 q] w fun e w' => e = .returned (.bool true) ∧ w' = w := by
  go_enter Try.func21, Try.ntmps21
  go_wp2
  go_ret
  exact ⟨rfl, rfl⟩
theorem bytes27 (a : Option Addr) (n c : Nat) (q : Int) (w : World) (hn : n ≤ 1024) :
    Calls Try.prog 27 #[.slice a n c, .int .u64 q] w fun e w' => e = .returned (.bool true) ∧ w' = w := by
  go_enter Try.func27, Try.ntmps27
  go_wp2
  go_ret
  exact ⟨rfl, rfl⟩
end Go.Proofs.Qxb6003414a

/-
  THE WALK OF (*nameIndex).add.
-/
import Derived.Test.Qxb6630777aNumberWalk
namespace Go.Proofs.Qxb6630777a
open Go.RowKit
open Go.Maps (Keyed)
open Go.WideMaps (keyOf_string_mk)
set_option linter.unusedSimpArgs false
set_option linter.unusedVariables false

theorem Try.info9 : (Try.prog.info? 9).map (fun i => (i.zero, i.size, i.bytes)) = some (some (.string ByteArray.empty), 1, 16) := by kernel_rfl

/-- What a call keeps: all blocks below B but block p. -/
structure Kept (B p : Nat) (w w' : World) : Prop where
  os : w'.os = w.os
  tape : w'.tape = w.tape
  output : w'.output = w.output
  size : w.heap.size ≤ w'.heap.size
  block : ∀ k, k < B → k ≠ p → w'.heap[k]? = w.heap[k]?

theorem Kept.refl (B p : Nat) (w : World) : Kept B p w w := ⟨rfl, rfl, rfl, Nat.le_refl _, fun _ _ _ => rfl⟩
theorem Kept.trans {B p : Nat} {a b c : World} (h : Kept B p a b) (k : Kept B p b c) : Kept B p a c :=
  ⟨k.os.trans h.os, k.tape.trans h.tape, k.output.trans h.output, Nat.le_trans h.size k.size, fun i hi hp => (k.block i hi hp).trans (h.block i hi hp)⟩
theorem Kept.grown {B p : Nat} {a w w' : World} {row : Option Nat} (h : Kept B p a w) (hg : w.grownBy w' row) (hB : B ≤ w.heap.size) (hr : ∀ k, row = some k → B ≤ k) : Kept B p a w' :=
  h.trans ⟨hg.os, hg.tape, hg.output, hg.size, fun k hk _ => hg.block k (by omega) (fun e => by have := hr k e.symm; omega)⟩
theorem Kept.alloc {B p : Nat} {a w : World} (h : Kept B p a w) (hB : B ≤ w.heap.size) (o : Obj) : Kept B p a (w.alloc o) :=
  h.grown (World.grownBy_alloc w o none) hB (fun k hk => by cases hk)
theorem Kept.setCell {B p : Nat} {a w : World} (h : Kept B p a w) {q : Addr} (hq : q.block = p ∨ B ≤ q.block) (u : Value) : Kept B p a (w.setCell q u) :=
  h.trans ⟨rfl, rfl, rfl, by simp [World.setCell], fun k hk hp => Below.heap_setCell _ _ _ _ (by rcases hq with h | h <;> omega)⟩
theorem Kept.drew {B p : Nat} {a w : World} (h : Kept B p a w) : Kept B p a w.drew := ⟨h.os, h.tape, h.output, h.size, h.block⟩

set_option maxHeartbeats 400000 in
theorem add_old (B p : Nat) (names : List ByteArray) (s : ByteArray) (w : World) (h : IxAt w B p names) (hl : names.length ≤ 1048576) (hs : s.size ≤ maxLen) (hin : s ∈ names) :
    Calls Try.prog 12 #[.pointer (some ⟨p, 0, none⟩), .string s] w fun e w' => e = .returned (.int .i64 (idx names s : Int)) ∧ w' = w := by
  have hc := number_any B p names s w h hl hs
  rw [memB_iff.2 hin] at hc
  have e : numR names s = (idx names s : Int) := by unfold numR; rw [if_pos (memB_iff.2 hin)]
  rw [e] at hc
  have HC : Hid (Calls Try.prog 13 #[.pointer (some ⟨p, 0, none⟩), .string s] w fun e w' => e = .returned (.tuple #[.int .i64 (idx names s : Int), .bool true]) ∧ w' = w) := hc
  clear hc e h
  go_enter Try.func12, Try.ntmps12
  go_wp2_with fail
  refine HC.out.mono ?_
  rintro e w' ⟨rfl, rfl⟩
  go_wp2_with fail
  go_ret
  exact ⟨rfl, rfl⟩

theorem after_append {w w1 : World} {B p n : Nat} {v m v' : Value} {xs ys : List Value} {o : Obj} (hb : w.heap[p]? = some (.cells #[v, m] 35 (0, 0))) (hp : p < B) (hB : B ≤ w.heap.size) (hrow : w.ownsRow B 9 1 v n xs)
    (hown' : w1.ownsRow B 9 1 v' (n + 1) ys) (hg : (w.alloc o).grownBy w1 v.ownBlock) : (∃ g cap, v' = .slice (some ⟨g, 0, none⟩) (n + 1) cap ∧ B ≤ g) ∧ w1.heap[p]? = some (.cells #[v, m] 35 (0, 0)) := by
  refine ⟨?_, ?_⟩
  · rcases hown'.2 with ⟨_, h0⟩ | ⟨g, cap, cur, rfl, hg, _⟩
    · omega
    · exact ⟨g, cap, rfl, hg⟩
  · rw [hg.block p (by simp; omega) (fun e => by have := (hrow.lt p e.symm).1; omega)]
    rw [Below.heap_alloc _ _ _ (by omega)]
    exact hb

set_option maxHeartbeats 1000000 in
theorem add_few (B p n : Nat) (v : Value) (xs : List Value) (s : ByteArray) (w : World)
    (HC : Hid (Calls Try.prog 13 #[.pointer (some ⟨p, 0, none⟩), .string s] w fun e w' => e = .returned (.tuple #[.int .i64 0, .bool false]) ∧ w' = w))
    (hb : w.heap[p]? = some (.cells #[v, .map none] 35 (0, 0))) (hrow : w.ownsRow B 9 1 v n xs) (hn : n < 8) (hp : p < B) (hB : B ≤ w.heap.size) :
    Calls Try.prog 12 #[.pointer (some ⟨p, 0, none⟩), .string s] w fun e w' => ∃ w1 v', e = .returned (.int .i64 (n : Int)) ∧
      w1.ownsRow B 9 1 v' (n + 1) (xs ++ [.string s]) ∧ (w.alloc (.cells #[.string s] 9)).grownBy w1 v.ownBlock ∧ w' = w1.setCell ⟨p, 0, none⟩ v' := by
  have hnm := fun (w : World) (r : Option Nat) => run_neq_map_nil (P := Try.prog) w 29 9 3 r Try.underlying29
  obtain ⟨i0, hi, hz0, hz1, hz2⟩ := info_parts Try.info9
  obtain ⟨c0, c1, f0⟩ := cell_two hb
  have HB : Hid (w.heap[p]? = some (.cells #[v, .map none] 35 (0, 0))) := hb
  clear hb
  go_enter Try.func12, Try.ntmps12
  go_wp2_with fail
  refine HC.out.mono ?_
  rintro e w' ⟨rfl, rfl⟩
  go_wp2_with (at_builtin; refine wpList_append_own _ rfl _ _ 22 rfl B 9 i0 (.string ByteArray.empty) 1 16 Try.underlying22 hi hz0 hz1 hz2 rfl (by decide) v n xs rfl (hrow.alloc _) ⟨w'.heap.size, 0, none⟩ 1 1 [.string s] rfl rfl (cell_one_new _ _ _) (by simp; rfl) (by unfold maxLen; omega) (by omega) (by simp; omega) ?_; intro v' w1 hown' hgrow hnil; obtain ⟨⟨g', cap', rfl, hgB⟩, hb1⟩ := after_append HB.out hp hB hrow hown' hgrow; obtain ⟨d0, d1, e0⟩ := cell_two hb1; clear hb1 hnil c0 c1 f0 hi hz0 hz1 hz2)
  go_ret
  exact ⟨w1, _, rfl, hown', hgrow, rfl⟩

/-- A map is no row. -/
theorem map_ne_row {w : World} {B n k : Nat} {v : Value} {xs : List Value} {b : Nat} {D : DataW Unit} (hrow : w.ownsRow B 9 1 v n xs) (hm : w.ownsMap Try.prog 9 (plainElem Try.prog 3) b k D) : some b ≠ v.ownBlock := by
  intro e
  obtain ⟨es, clock, hb, _⟩ := hm
  rcases hrow.2 with ⟨rfl, _⟩ | ⟨g, cap, cur, rfl, _, hg, _⟩
  · simp [Value.ownBlock] at e
  · simp [Value.ownBlock] at e
    rw [← e, hb] at hg
    cases hg

theorem map_after {w w1 : World} {B p n k : Nat} {v u : Value} {xs : List Value} {o : Obj} {b : Nat} {D : DataW Unit} (hrow : w.ownsRow B 9 1 v n xs) (hm : w.ownsMap Try.prog 9 (plainElem Try.prog 3) b k D)
    (hg : (w.alloc o).grownBy w1 v.ownBlock) (hne : b ≠ p) : (w1.setCell ⟨p, 0, none⟩ u).ownsMap Try.prog 9 (plainElem Try.prog 3) b k D :=
  ((hm.alloc o).kept hg (map_ne_row hrow hm)).setCell hne u

set_option maxHeartbeats 1000000 in
theorem add_many (B p n mb : Nat) (v : Value) (xs : List Value) (D : DataW Unit) (s : ByteArray) (w : World)
    (HC : Hid (Calls Try.prog 13 #[.pointer (some ⟨p, 0, none⟩), .string s] w fun e w' => e = .returned (.tuple #[.int .i64 0, .bool false]) ∧ w' = w))
    (hb : w.heap[p]? = some (.cells #[v, .map (some mb)] 35 (0, 0))) (hrow : w.ownsRow B 9 1 v n xs) (hm : w.ownsMap Try.prog 9 (plainElem Try.prog 3) mb n D) (hs : s.size ≤ maxLen)
    (hn : n ≤ 1048576) (hp : p < B) (hB : B ≤ w.heap.size) (hmb : B ≤ mb) :
    Calls Try.prog 12 #[.pointer (some ⟨p, 0, none⟩), .string s] w fun e w' => ∃ w1 v', e = .returned (.int .i64 (n : Int)) ∧
      w1.ownsRow B 9 1 v' (n + 1) (xs ++ [.string s]) ∧ (w.alloc (.cells #[.string s] 9)).grownBy w1 v.ownBlock ∧
      w'.ownsMap Try.prog 9 (plainElem Try.prog 3) mb (n + 1) (D.put (key s) (.lit (.int .i64 (n : Int)))) ∧ (w1.setCell ⟨p, 0, none⟩ v').grownBy w' (some mb) := by
  have hnm := fun (w : World) (r : Option Nat) => run_neq_map_nil (P := Try.prog) w 29 9 3 r Try.underlying29
  obtain ⟨i0, hi, hz0, hz1, hz2⟩ := info_parts Try.info9
  obtain ⟨c0, c1, f0⟩ := cell_two hb
  have hkey : keyOf Try.prog 9 (.string s) = some (key s) := keyOf_string_mk Try.underlying9 hs
  have HB : Hid (w.heap[p]? = some (.cells #[v, .map (some mb)] 35 (0, 0))) := hb
  clear hb
  go_enter Try.func12, Try.ntmps12
  go_wp2_with fail
  refine HC.out.mono ?_
  rintro e w' ⟨rfl, rfl⟩
  go_wp2_with (first
    | (at_builtin; refine wpList_append_own _ rfl _ _ 22 rfl B 9 i0 (.string ByteArray.empty) 1 16 Try.underlying22 hi hz0 hz1 hz2 rfl (by decide) v n xs rfl (hrow.alloc _) ⟨w'.heap.size, 0, none⟩ 1 1 [.string s] rfl rfl (cell_one_new _ _ _) (by simp; rfl) (by unfold maxLen; omega) (by omega) (by simp; omega) ?_; intro v' w1 hown' hgrow hnil; obtain ⟨⟨g', cap', rfl, hgB⟩, hb1⟩ := after_append HB.out hp hB hrow hown' hgrow; obtain ⟨d0, d1, e0⟩ := cell_two hb1; clear hb1 hnil c0 c1 f0 hi hz0 hz1 hz2)
    | (at_mapUpdate; refine wpList_mapUpdate_own _ rfl _ _ _ 29 rfl 9 3 law Try.underlying29 _ mb n D rfl (map_after hrow hm hgrow (by omega)) (by unfold maxLen; omega) _ _ _ rfl rfl hkey _ [] (plainElem_int Try.underlying3 (WalkArith.wf_i64 (by omega))) ?_; intro w3 hown3 hgrow3))
  go_ret
  exact ⟨w1, _, rfl, hown', hgrow, hown3, hgrow3⟩

/-- While the ninth name's map is filled. -/
def Inv9 (B p mb : Nat) (v' : Value) (names : List ByteArray) (j : Nat) (w wr : World) : Prop :=
  wr.ownsMap Try.prog 9 (plainElem Try.prog 3) mb j (dm names j) ∧ wr.heap[p]? = some (.cells #[v', .map (some mb)] 35 (0, 0)) ∧ wr.ownsRow B 9 1 v' names.length (names.map Value.string) ∧ Kept B p w wr

theorem makeMap9 (w : World) : (Instr.makeMap 29 (some (.int .i64 9))).run Try.prog w = .ok (.map (some w.heap.size)) (w.alloc (.map #[] 0)) := by kernel_rfl

theorem set_zero {w : World} {p : Nat} {a b x : Value} {t : TypeId} (h : w.heap[p]? = some (.cells #[a, b] t (0, 0))) : (w.setCell ⟨p, 0, none⟩ x).heap[p]? = some (.cells #[x, b] t (0, 0)) := by
  simp [World.setCell, Array.getElem?_modify, h]
theorem set_one {w : World} {p : Nat} {a b x : Value} {t : TypeId} (h : w.heap[p]? = some (.cells #[a, b] t (0, 0))) : (w.setCell ⟨p, 1, none⟩ x).heap[p]? = some (.cells #[a, x] t (0, 0)) := by
  simp [World.setCell, Array.getElem?_modify, h]
theorem size_setCell (w : World) (a : Addr) (x : Value) : (w.setCell a x).heap.size = w.heap.size := by simp [World.setCell]

theorem inv9_start {w w1 : World} {B p : Nat} {v v' : Value} {xs : List Value} {names : List ByteArray} {n : Nat} {o : Obj} (hb1 : w1.heap[p]? = some (.cells #[v, .map none] 35 (0, 0))) (hp : p < B) (hB : B ≤ w.heap.size)
    (hrow : w.ownsRow B 9 1 v n xs) (hown' : w1.ownsRow B 9 1 v' names.length (names.map Value.string)) (hg : (w.alloc o).grownBy w1 v.ownBlock) :
    Inv9 B p w1.heap.size v' names 0 w (((w1.setCell ⟨p, 0, none⟩ v').setCell ⟨p, 1, none⟩ (.map (some w1.heap.size))).alloc (.map #[] 0)) := by
  have hk : Kept B p w w1 := ((Kept.refl B p w).alloc hB o).grown hg (by simp; omega) (fun k hk => (hrow.lt k hk).1)
  have hs : ((w1.setCell ⟨p, 0, none⟩ v').setCell ⟨p, 1, none⟩ (.map (some w1.heap.size))).heap.size = w1.heap.size := by rw [size_setCell, size_setCell]
  refine ⟨?_, ?_, ?_, ?_⟩
  · have := World.ownsMap_made (H := Unit) ((w1.setCell ⟨p, 0, none⟩ v').setCell ⟨p, 1, none⟩ (.map (some w1.heap.size))) Try.prog 9 (plainElem Try.prog 3)
    rw [hs] at this
    exact this
  · have hlt : p < w1.heap.size := (Array.getElem?_eq_some_iff.1 hb1).1
    rw [Below.heap_alloc _ _ _ (by rw [hs]; exact hlt)]
    exact set_one (set_zero hb1)
  · exact (ownsRow_setCell_below (ownsRow_setCell_below hown' (by exact hp) _) (by exact hp) _).alloc _
  · exact ((hk.setCell (.inl rfl) _).setCell (.inl rfl) _).alloc (by rw [hs]; exact Nat.le_trans hB hk.size) _

theorem inv9_step {w wr w2 : World} {B p mb : Nat} {v' : Value} {names : List ByteArray} {j : Nat} (h : Inv9 B p mb v' names j w wr) (hp : p < B) (hmb : B ≤ mb) (hB : B ≤ w.heap.size)
    (hm : w2.ownsMap Try.prog 9 (plainElem Try.prog 3) mb (j + 1) ((dm names j).put (key (names.getD j ByteArray.empty)) (.lit (.int .i64 (j : Int))))) (hg : wr.grownBy w2 (some mb)) : Inv9 B p mb v' names (j + 1) w w2 := by
  obtain ⟨h1, h2, h3, h4⟩ := h
  have hlt : p < wr.heap.size := (Array.getElem?_eq_some_iff.1 h2).1
  refine ⟨hm, ?_, h3.kept hg (.inr (fun e => map_ne_row h3 h1 e.symm)), h4.grown hg (Nat.le_trans hB h4.size) (fun k hk => by cases hk; exact hmb)⟩
  rw [hg.block p hlt (fun e => by cases e; omega)]
  exact h2

set_option maxHeartbeats 1000000 in
theorem add_nine (B p : Nat) (v : Value) (xs : List Value) (names : List ByteArray) (s : ByteArray) (w : World)
    (HC : Hid (Calls Try.prog 13 #[.pointer (some ⟨p, 0, none⟩), .string s] w fun e w' => e = .returned (.tuple #[.int .i64 0, .bool false]) ∧ w' = w))
    (hb : w.heap[p]? = some (.cells #[v, .map none] 35 (0, 0))) (hrow : w.ownsRow B 9 1 v 8 xs) (hp : p < B) (hB : B ≤ w.heap.size)
    (HN : Hid (xs ++ [.string s] = names.map Value.string)) (hsz : ∀ s ∈ names, s.size ≤ maxLen) :
    Calls Try.prog 12 #[.pointer (some ⟨p, 0, none⟩), .string s] w fun e w' => e = .returned (.int .i64 8) ∧ ∃ mb v', B ≤ mb ∧ Inv9 B p mb v' names 9 w w' := by
  have hnm := fun (w : World) (r : Option Nat) => run_neq_map_nil (P := Try.prog) w 29 9 3 r Try.underlying29
  have hmm := makeMap9
  obtain ⟨i0, hi, hz0, hz1, hz2⟩ := info_parts Try.info9
  obtain ⟨c0, c1, f0⟩ := cell_two hb
  have HB : Hid (w.heap[p]? = some (.cells #[v, .map none] 35 (0, 0))) := hb
  clear hb
  go_enter Try.func12, Try.ntmps12
  go_wp2_with fail
  refine HC.out.mono ?_
  rintro e w' ⟨rfl, rfl⟩
  go_wp2_with (at_builtin; refine wpList_append_own _ rfl _ _ 22 rfl B 9 i0 (.string ByteArray.empty) 1 16 Try.underlying22 hi hz0 hz1 hz2 rfl (by decide) v 8 xs rfl (hrow.alloc _) ⟨w'.heap.size, 0, none⟩ 1 1 [.string s] rfl rfl (cell_one_new _ _ _) (by simp; rfl) (by unfold maxLen; omega) (by omega) (by simp; omega) ?_; intro v' w1 hown' hgrow hnil; obtain ⟨⟨g', cap', rfl, hgB⟩, hb1⟩ := after_append HB.out hp hB hrow hown' hgrow; obtain ⟨d0, d1, e0⟩ := cell_two hb1; have hp1 : p < w1.heap.size := (Array.getElem?_eq_some_iff.1 hb1).1; clear hnil c0 c1 f0 hi hz0 hz1 hz2; have HB1 : Hid (w1.heap[p]? = some (.cells #[v, .map none] 35 (0, 0))) := hb1; clear hb1)
  have hnl : names.length = 9 := by
    have h1 := congrArg List.length HN.out
    have h2 := hown'.1
    rw [h1] at h2
    simpa using h2
  have hown2 : w1.ownsRow B 9 1 (.slice (some ⟨g', 0, none⟩) 9 cap') names.length (names.map Value.string) := by rw [← HN.out, hnl]; exact hown'
  have hst := inv9_start HB1.out hp hB hrow hown2 hgrow
  have HS : Hid (Inv9 B p w1.heap.size (.slice (some ⟨g', 0, none⟩) 9 cap') names 0 w' (((w1.setCell ⟨p, 0, none⟩ (.slice (some ⟨g', 0, none⟩) 9 cap')).setCell ⟨p, 1, none⟩ (.map (some w1.heap.size))).alloc (.map #[] 0))) := hst
  have hmbB : B ≤ w1.heap.size := Nat.le_trans hB (Nat.le_trans (by simp) hgrow.size)
  obtain ⟨mb, hmbe⟩ : ∃ mb, mb = w1.heap.size := ⟨_, rfl⟩
  have HNL : Hid (names.length = 9) := hnl
  clear hst hown2 hnl hown' hgrow d0 d1 e0
  go_loopw [67] (fun i wr => ∃ j : Nat, i = .int .i64 (j : Int) ∧ j ≤ 9 ∧ Inv9 B p w1.heap.size (.slice (some ⟨g', 0, none⟩) 9 cap') names j w' wr) (fun i _ => 9 - (intOf i).toNat)
  case atStart => exact ⟨0, rfl, by omega, HS.out⟩
  case round =>
    obtain ⟨j, rfl, hj, hI⟩ := hrel
    by_cases hlt : j < 9
    · obtain ⟨q0, q1, _⟩ := cell_two hI.2.1
      obtain ⟨t, ht⟩ : ∃ t, t = names.getD j ByteArray.empty := ⟨_, rfl⟩
      have HT : Hid (t = names.getD j ByteArray.empty) := ht
      have hq : wr.cell? ⟨g', j, none⟩ = some (.string t) := by
        rcases hI.2.2.1.2 with ⟨h, _⟩ | ⟨g, cap, cur, he, hg, hh, _, _, _, hx⟩
        · cases h
        · have e1 : g' = g := by
            injection he with e1 e2 e3
            injection e1 with e1
            injection e1
          subst e1
          rw [ht]
          exact row_cells (cap := cap') hh hx j (by have := HNL.out; omega)
      have hts : t.size ≤ maxLen := by rw [ht]; exact hsz _ (getD_mem (by have := HNL.out; omega))
      have hkey : keyOf Try.prog 9 (.string t) = some (key t) := keyOf_string_mk Try.underlying9 hts
      have hmap := hI.1
      have HI : Hid (Inv9 B p w1.heap.size (.slice (some ⟨g', 0, none⟩) 9 cap') names j w' wr) := hI
      clear hI ht hts q0
      go_wp2_with (at_mapUpdate; refine wpList_mapUpdate_own _ rfl _ _ _ 29 rfl 9 3 law Try.underlying29 _ w1.heap.size j (dm names j) rfl hmap (by unfold maxLen; omega) _ _ _ rfl rfl hkey _ [] (plainElem_int Try.underlying3 (WalkArith.wf_i64 (by omega))) ?_; intro w3 hown3 hgrow3)
      go_roundw
      case rel => exact ⟨j + 1, by go_num, by omega, inv9_step HI.out hp hmbB hB (by rw [← HT.out]; exact hown3) hgrow3⟩
      case measure => simp [intOf]; omega
    · have hj9 : j = 9 := by omega
      subst hj9
      go_wp2
      go_ret
      exact ⟨rfl, w1.heap.size, _, hmbB, hI⟩

end Go.Proofs.Qxb6630777a

/-
  (*nameIndex).add, WHOLE; and the shims.
-/
import Derived.Test.Qxb6630777aAddWalk
namespace Go.Proofs.Qxb6630777a
open Go.RowKit
set_option linter.unusedSimpArgs false
set_option linter.unusedVariables false

theorem kept_append {w w1 : World} {B p n : Nat} {v : Value} {xs : List Value} {o : Obj} (hB : B ≤ w.heap.size) (hrow : w.ownsRow B 9 1 v n xs) (hg : (w.alloc o).grownBy w1 v.ownBlock) : Kept B p w w1 :=
  ((Kept.refl B p w).alloc hB o).grown hg (by simp; omega) (fun k hk => (hrow.lt k hk).1)

theorem map_string_snoc (names : List ByteArray) (s : ByteArray) : names.map Value.string ++ [.string s] = (names ++ [s]).map Value.string := by simp

theorem add_any (B p : Nat) (names : List ByteArray) (s : ByteArray) (w : World) (h : IxAt w B p names) (hl : names.length ≤ 1048575) (hs : s.size ≤ maxLen) (hB : B ≤ w.heap.size) :
    Calls Try.prog 12 #[.pointer (some ⟨p, 0, none⟩), .string s] w fun e w' => e = .returned (.int .i64 (idx (addN names s) s : Int)) ∧ IxAt w' B p (addN names s) ∧ Kept B p w w' := by
  by_cases hin : s ∈ names
  · rw [addN_yes hin]
    refine (add_old B p names s w h (by omega) hs hin).mono ?_
    rintro e w' ⟨rfl, rfl⟩
    exact ⟨rfl, h, Kept.refl _ _ _⟩
  · have hnb := number_any B p names s w h (by omega) hs
    have e0 : numR names s = 0 := by unfold numR; rw [if_neg (fun e => hin (memB_iff.1 e))]
    rw [memB_no.2 hin, e0] at hnb
    have hnd := nodup_addN h.2.1 s
    have hidx := idx_new hin
    rw [addN_no hin] at hnd hidx ⊢
    rw [hidx]
    obtain ⟨hp, _, hsz, v, m, hb, hrow, hm⟩ := h
    have hsz' : ∀ x ∈ names ++ [s], x.size ≤ maxLen := by
      intro x hx
      rcases List.mem_append.1 hx with h | h
      · exact hsz x h
      · simp at h; rw [h]; exact hs
    have hl' : (names ++ [s]).length = names.length + 1 := by simp
    rcases hm with ⟨h8, rfl⟩ | ⟨h8, mb, rfl, hmb, hown⟩
    · by_cases h9 : names.length < 8
      · refine (add_few B p names.length v _ s w hnb hb hrow h9 hp hB).mono ?_
        rintro e w' ⟨w1, v', rfl, hown', hgrow, rfl⟩
        obtain ⟨_, hb1⟩ := after_append hb hp hB hrow hown' hgrow
        have hk : Kept B p w w1 := kept_append hB hrow hgrow
        refine ⟨rfl, ⟨hp, hnd, hsz', v', .map none, set_zero hb1, ?_, .inl ⟨by omega, rfl⟩⟩, hk.setCell (.inl rfl) _⟩
        rw [hl', ← map_string_snoc]
        exact ownsRow_setCell_below hown' (by exact hp) _
      · have h8' : names.length = 8 := by omega
        rw [h8'] at hrow
        refine (add_nine B p v _ (names ++ [s]) s w hnb hb hrow hp hB (map_string_snoc names s) hsz').mono ?_
        rintro e w' ⟨rfl, mb, v', hmb, hI⟩
        obtain ⟨i1, i2, i3, i4⟩ := hI
        refine ⟨by rw [h8']; rfl, ⟨hp, hnd, hsz', v', _, i2, i3, .inr ⟨by omega, mb, rfl, hmb, ?_⟩⟩, i4⟩
        rw [hl', h8']
        exact i1
    · refine (add_many B p names.length mb v _ (dm names names.length) s w hnb hb hrow hown hs (by omega) hp hB hmb).mono ?_
      rintro e w' ⟨w1, v', rfl, hown', hgrow, hown3, hgrow3⟩
      obtain ⟨_, hb1⟩ := after_append hb hp hB hrow hown' hgrow
      have hk : Kept B p w w1 := kept_append hB hrow hgrow
      have hk2 := hk.setCell (q := ⟨p, 0, none⟩) (.inl rfl) v'
      have hrow2 := ownsRow_setCell_below hown' (a := ⟨p, 0, none⟩) (by exact hp) v'
      have hmapw : (w1.setCell ⟨p, 0, none⟩ v').ownsMap Try.prog 9 (plainElem Try.prog 3) mb names.length (dm names names.length) := map_after hrow hown hgrow (by omega)
      have hb2 : w'.heap[p]? = some (.cells #[v', .map (some mb)] 35 (0, 0)) := by
        have h2 := set_zero (x := v') hb1
        rw [hgrow3.block p ((Array.getElem?_eq_some_iff.1 h2).1) (fun e => by cases e; omega)]
        exact h2
      refine ⟨rfl, ⟨hp, hnd, hsz', v', _, hb2, ?_, .inr ⟨by omega, mb, rfl, hmb, ?_⟩⟩, hk2.grown hgrow3 (Nat.le_trans hB hk2.size) (fun k hk => by cases hk; exact hmb)⟩
      · rw [hl', ← map_string_snoc]
        exact hrow2.kept hgrow3 (.inr (fun e => map_ne_row hrow2 hmapw e.symm))
      · rw [hl']
        have e : dm (names ++ [s]) (names.length + 1) = (dm names names.length).put (key s) (.lit (.int .i64 (names.length : Int))) := by
          show (dm (names ++ [s]) names.length).put (key ((names ++ [s]).getD names.length ByteArray.empty)) _ = _
          rw [dm_append names [s] names.length (Nat.le_refl _)]
          congr 2
          simp
        rw [e]
        exact hown3

/-! ### The shims -/
set_option maxHeartbeats 400000 in
theorem zzadd (B p : Nat) (names : List ByteArray) (s : ByteArray) (w : World) (h : IxAt w B p names) (hl : names.length ≤ 1048575) (hs : s.size ≤ maxLen) (hB : B ≤ w.heap.size) :
    Calls Try.prog 7 #[.pointer (some ⟨p, 0, none⟩), .string s] w fun e w' => e = .returned (.int .i64 (idx (addN names s) s : Int)) ∧ IxAt w' B p (addN names s) ∧ Kept B p w w' := by
  have hc := add_any B p names s w h hl hs hB
  have HC : Hid (Calls Try.prog 12 #[.pointer (some ⟨p, 0, none⟩), .string s] w fun e w' => e = .returned (.int .i64 (idx (addN names s) s : Int)) ∧ IxAt w' B p (addN names s) ∧ Kept B p w w') := hc
  clear hc h
  go_enter Try.func7, Try.ntmps7
  go_wp2_with fail
  refine HC.out.mono ?_
  rintro e w1 ⟨rfl, h1, h2⟩
  go_wp2_with fail
  go_ret
  exact ⟨rfl, h1, h2⟩

set_option maxHeartbeats 400000 in
theorem zznumber (B p : Nat) (names : List ByteArray) (s : ByteArray) (w : World) (h : IxAt w B p names) (hl : names.length ≤ 1048575) (hs : s.size ≤ maxLen) :
    Calls Try.prog 11 #[.pointer (some ⟨p, 0, none⟩), .string s] w fun e w' => e = .returned (.tuple #[.int .i64 (numR names s), .bool (memB names s)]) ∧ w' = w := by
  have hc := number_any B p names s w h (by omega) hs
  have HC : Hid (Calls Try.prog 13 #[.pointer (some ⟨p, 0, none⟩), .string s] w fun e w' => e = .returned (.tuple #[.int .i64 (numR names s), .bool (memB names s)]) ∧ w' = w) := hc
  clear hc h
  go_enter Try.func11, Try.ntmps11
  go_wp2_with fail
  refine HC.out.mono ?_
  rintro e w1 ⟨rfl, rfl⟩
  go_wp2_with fail
  go_ret2
  exact ⟨rfl, rfl⟩

set_option maxHeartbeats 400000 in
theorem zznames (p : Nat) (a : Option Addr) (n cap : Nat) (m : Value) (w : World) (h : w.heap[p]? = some (.cells #[.slice a n cap, m] 35 (0, 0))) :
    Calls Try.prog 8 #[.pointer (some ⟨p, 0, none⟩)] w fun e w' => e = .returned (.slice a n cap) ∧ w' = w := by
  obtain ⟨c0, c1, _⟩ := cell_two h
  clear h
  go_enter Try.func8, Try.ntmps8
  go_wp2
  go_ret
  exact ⟨rfl, rfl⟩

set_option maxHeartbeats 400000 in
theorem zzbyName (p : Nat) (v : Value) (m : Option Nat) (w : World) (h : w.heap[p]? = some (.cells #[v, .map m] 35 (0, 0))) :
    Calls Try.prog 9 #[.pointer (some ⟨p, 0, none⟩)] w fun e w' => e = .returned (.map m) ∧ w' = w := by
  obtain ⟨c0, c1, _⟩ := cell_two h
  clear h
  go_enter Try.func9, Try.ntmps9
  go_wp2
  go_ret
  exact ⟨rfl, rfl⟩

set_option maxHeartbeats 400000 in
theorem zznew (w : World) :
    Calls Try.prog 6 #[] w fun e w' => e = .returned (.pointer (some ⟨w.heap.size, 0, none⟩)) ∧ w' = w.alloc (.cells #[.slice none 0 0, .map none] 35) := by
  go_enter Try.func6, Try.ntmps6
  go_wp2
  go_ret
  exact ⟨rfl, rfl⟩

theorem ix_new (w : World) (B : Nat) (hB : w.heap.size < B) : IxAt (w.alloc (.cells #[.slice none 0 0, .map none] 35)) B w.heap.size [] := by
  refine ⟨hB, List.nodup_nil, by simp, .slice none 0 0, .map none, ?_, World.ownsRow_nil _ _ _ _, .inl ⟨by simp, rfl⟩⟩
  show (w.heap.push _)[w.heap.size]? = _
  simp

end Go.Proofs.Qxb6630777a

/-
  THE WALK OF (*nameIndex).number, and what an index is in memory.
-/
import Derived.Test.Qxb6630777aRows
import Derived.Test.Qxb6630777aIxPlain
import Derived.WalkKit
import Derived.WalkSpells
import Derived.WalkLawsBesides
import Derived.Maps.OwnSet
namespace Go.Proofs.Qxb6630777a
open Go.RowKit
open Go.Maps (Keyed)
open Go.WideMaps (keyOf_string_mk)
set_option linter.unusedSimpArgs false
set_option linter.unusedVariables false

theorem ret_two {a a' : Int} {x x' : Bool} (h : a' = a ∧ x' = x) : Ending.returned (.tuple #[.int .i64 a, .bool x]) = .returned (.tuple #[.int .i64 a', .bool x']) := by rw [h.1, h.2]
theorem ret_bool {a b : Bool} (h : a = b) : Ending.returned (.bool a) = .returned (.bool b) := by rw [h]
theorem ret_int {k : IntKind} {a b : Int} (h : a = b) : Ending.returned (.int k a) = .returned (.int k b) := by rw [h]
theorem int_eq {k : IntKind} {a b : Int} (h : a = b) : Value.int k a = .int k b := by rw [h]

theorem toList_ne {a b : ByteArray} (h : a ≠ b) : (a.toList == b.toList) = false := by
  rw [beq_eq_false_iff_ne]
  intro e
  rw [ByteArray.toList_eq, ByteArray.toList_eq] at e
  exact h (Go.WideShapes.bytes_inj e)
theorem toList_same {a b : ByteArray} (h : a = b) : (a.toList == b.toList) = true := by rw [h]; simp

theorem law : Keyed Try.prog 9 := Go.Maps.string_keyed Try.underlying9
theorem zero3 (w : World) : (zeroValue 3).run Try.prog w = .ok (.int .i64 0) w := by kernel_rfl

set_option maxHeartbeats 400000 in
theorem number_nil (p : Nat) (s : ByteArray) (w : World) (hc0 : w.cell? ⟨p, 0, none⟩ = some (.slice none 0 0)) (hc1 : w.cell? ⟨p, 1, none⟩ = some (.map none)) :
    Calls Try.prog 13 #[.pointer (some ⟨p, 0, none⟩), .string s] w fun e w' => e = .returned (.tuple #[.int .i64 0, .bool false]) ∧ w' = w := by
  have hnm := fun (w : World) (r : Option Nat) => run_neq_map_nil (P := Try.prog) w 29 9 3 r Try.underlying29
  go_enter Try.func13, Try.ntmps13
  go_wp2
  go_loop [31] (fun i => i = .int .i64 0) (fun _ => 0)
  case atStart => rfl
  case round =>
    subst hrel
    go_wp2
    go_ret2
    exact ⟨rfl, rfl⟩

set_option maxHeartbeats 400000 in
theorem number_list (p g n cap : Nat) (x : Nat → ByteArray) (s : ByteArray) (w : World) (r : Int) (ok : Bool)
    (hc0 : w.cell? ⟨p, 0, none⟩ = some (.slice (some ⟨g, 0, none⟩) n cap)) (hc1 : w.cell? ⟨p, 1, none⟩ = some (.map none)) (hn : n ≤ 1048576)
    (hx : ∀ i, i < n → w.cell? ⟨g, i, none⟩ = some (.string (x i)))
    (Hyes : Hid (∀ k, k < n → x k = s → (∀ j, j < k → x j ≠ s) → r = (k : Int) ∧ ok = true)) (Hno : Hid ((∀ j, j < n → x j ≠ s) → r = 0 ∧ ok = false)) :
    Calls Try.prog 13 #[.pointer (some ⟨p, 0, none⟩), .string s] w fun e w' => e = .returned (.tuple #[.int .i64 r, .bool ok]) ∧ w' = w := by
  have hnm := fun (w : World) (r : Option Nat) => run_neq_map_nil (P := Try.prog) w 29 9 3 r Try.underlying29
  go_enter Try.func13, Try.ntmps13
  go_wp2
  go_loop [31] (fun i => ∃ k : Nat, i = .int .i64 (k : Int) ∧ k ≤ n ∧ ∀ j, j < k → x j ≠ s) (fun i => n - (intOf i).toNat)
  case atStart => exact ⟨0, rfl, Nat.zero_le _, fun j hj => absurd hj (by omega)⟩
  case round =>
    obtain ⟨k, rfl, hk, hall⟩ := hrel
    have HA : Hid (∀ j, j < k → x j ≠ s) := hall
    clear hall
    by_cases hlt : k < n
    · have hck := hx k hlt
      by_cases e : x k = s
      · have HE : Hid (x k = s) := e
        have e' := toList_same e
        clear e
        go_wp2
        go_ret2
        exact ⟨ret_two (Hyes.out k hlt HE.out HA.out), rfl⟩
      · have HE : Hid (x k ≠ s) := e
        have e' := toList_ne e
        clear e
        go_wp2
        go_round
        case rel => exact ⟨k + 1, by go_num, by omega, fun j hj => by rcases Nat.lt_succ_iff_lt_or_eq.1 hj with h | h; exact HA.out j h; subst h; exact HE.out⟩
        case measure => simp [intOf]; omega
    · go_wp2
      go_ret2
      exact ⟨ret_two (Hno.out (fun j hj => HA.out j (by omega))), rfl⟩

set_option maxHeartbeats 400000 in
theorem number_map (p b n : Nat) (D : DataW Unit) (s : ByteArray) (w : World) (r : Int) (ok : Bool)
    (hc1 : w.cell? ⟨p, 1, none⟩ = some (.map (some b))) (hown : w.ownsMap Try.prog 9 (plainElem Try.prog 3) b n D) (hs : s.size ≤ maxLen)
    (Hat : Hid (D.atKey (key s) (.lit (.int .i64 0)) = .lit (.int .i64 r))) (Hhas : Hid (Maps.has D (key s) = ok)) :
    Calls Try.prog 13 #[.pointer (some ⟨p, 0, none⟩), .string s] w fun e w' => e = .returned (.tuple #[.int .i64 r, .bool ok]) ∧ w' = w := by
  have hnm := fun (w : World) (r : Option Nat) => run_neq_map_nil (P := Try.prog) w 29 9 3 r Try.underlying29
  have hkey : keyOf Try.prog 9 (.string s) = some (key s) := keyOf_string_mk Try.underlying9 hs
  go_enter Try.func13, Try.ntmps13
  go_wp2_with (first | (at_lookup; refine wpList_lookup_own_ok_int _ rfl _ _ 29 rfl 9 3 .i64 law Try.underlying29 Try.underlying3 (zero3 _) b n D rfl hown _ _ rfl hkey ?_; intro c hat hwc))
  go_ret2
  refine ⟨ret_two ?_, rfl⟩
  have h := Hat.out
  rw [hat] at h
  simp only [DataW.lit.injEq, Lit.int.injEq, true_and] at h
  exact ⟨h.symm, Hhas.out.symm⟩

/-! ### What an index is in memory -/

/-- Block p holds the two fields; the names lie in a row, the map in a map, among the blocks from B on. -/
def IxAt (w : World) (B p : Nat) (names : List ByteArray) : Prop :=
  p < B ∧ names.Nodup ∧ (∀ s ∈ names, s.size ≤ maxLen) ∧ ∃ v m, w.heap[p]? = some (.cells #[v, m] 35 (0, 0)) ∧ w.ownsRow B 9 1 v names.length (names.map Value.string) ∧
    ((names.length ≤ 8 ∧ m = .map none) ∨ (8 < names.length ∧ ∃ mb, m = .map (some mb) ∧ B ≤ mb ∧ w.ownsMap Try.prog 9 (plainElem Try.prog 3) mb names.length (dm names names.length)))

theorem cell_two {w : World} {p : Nat} {v m : Value} {t : TypeId} (h : w.heap[p]? = some (.cells #[v, m] t (0, 0))) :
    w.cell? ⟨p, 0, none⟩ = some v ∧ w.cell? ⟨p, 1, none⟩ = some m ∧ (∀ j, w.frozen? ⟨p, j, none⟩ = false) := by
  refine ⟨by simp [World.cell?, h], by simp [World.cell?, h], fun j => by simp [World.frozen?, h]⟩

theorem row_cells {w : World} {names : List ByteArray} {cur : Array Value} {g cap : Nat} (hg : w.heap[g]? = some (.cells cur 9 (0, 0))) (hx : cur.toList.take (names.length * 1) = names.map Value.string) :
    ∀ i, i < names.length → w.cell? ⟨g, i, none⟩ = some (.string (names.getD i ByteArray.empty)) := by
  intro i hi
  have h1 : (cur.toList.take (names.length * 1))[i]? = (names.map Value.string)[i]? := by rw [hx]
  rw [List.getElem?_take, if_pos (by omega)] at h1
  simp only [World.cell?, hg]
  simp at h1
  simp [h1, List.getD, hi]

/-- What 'number' answers. -/
def numR (names : List ByteArray) (s : ByteArray) : Int := if memB names s = true then (idx names s : Int) else 0

theorem number_any (B p : Nat) (names : List ByteArray) (s : ByteArray) (w : World) (h : IxAt w B p names) (hl : names.length ≤ 1048576) (hs : s.size ≤ maxLen) :
    Calls Try.prog 13 #[.pointer (some ⟨p, 0, none⟩), .string s] w fun e w' => e = .returned (.tuple #[.int .i64 (numR names s), .bool (memB names s)]) ∧ w' = w := by
  obtain ⟨hp, hnd, hsz, v, m, hb, hrow, hm⟩ := h
  obtain ⟨c0, c1, _⟩ := cell_two hb
  rcases hm with ⟨h8, rfl⟩ | ⟨h8, mb, rfl, hmb, hown⟩
  · rcases hrow.2 with ⟨rfl, h0⟩ | ⟨g, cap, cur, rfl, hg, hh, hnc, hcm, hcs, hx⟩
    · have e : names = [] := List.eq_nil_of_length_eq_zero h0
      subst e
      exact number_nil p s w c0 c1
    · have hcells := row_cells (cap := cap) hh hx
      refine number_list p g names.length cap (fun i => names.getD i ByteArray.empty) s w _ _ c0 c1 hl hcells ?_ ?_
      · intro k hk e hb
        obtain ⟨h1, h2⟩ := idx_first hk e hb
        unfold numR
        rw [if_pos (memB_iff.2 h2), h1]
        exact ⟨rfl, memB_iff.2 h2⟩
      · intro hb
        have hn := memB_no.2 (not_mem_of hb)
        unfold numR
        rw [hn]
        exact ⟨rfl, rfl⟩
  · refine number_map p mb names.length (dm names names.length) s w _ _ c1 hown hs ?_ ?_
    · show _ = _
      unfold numR
      by_cases hin : s ∈ names
      · rw [if_pos (memB_iff.2 hin)]
        have := at_dm names hnd (.lit (.int .i64 0)) names.length (Nat.le_refl _) (idx names s) (idx_lt hin)
        rw [getD_idx hin] at this
        exact this
      · rw [if_neg (fun e => hin (memB_iff.1 e))]
        exact not_has_dm names _ s names.length (Nat.le_refl _) (by rw [List.take_length]; exact hin)
    · show _ = _
      rw [has_dm names s names.length (Nat.le_refl _), List.take_length]

end Go.Proofs.Qxb6630777a

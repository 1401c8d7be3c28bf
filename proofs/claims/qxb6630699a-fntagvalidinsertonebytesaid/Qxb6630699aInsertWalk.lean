/-
  THE WALK OF FnTagValidInsertOneByte.
-/
import Derived.Test.Qxb6630699aConcatWalk
namespace Go.Proofs.Qxb6630699a
open Go.RowKit
set_option linter.unusedSimpArgs false
set_option linter.unusedVariables false

theorem bytes8_no (a b : ByteArray) (c : Int) (w : World) (ha : a.size ≤ maxLen) (hb : b.size ≤ maxLen) (hz : 1048576 < a.size + b.size) :
    Calls Try.prog 8 #[.string a, .string b, .int .u8 c] w fun e w' => e = .returned (.bool false) ∧ w' = w := by
  have hc := bytes8 a b c w ha hb
  rw [decide_eq_false (by omega)] at hc
  exact hc
theorem bytes8_yes (a b : ByteArray) (c : Int) (w : World) (ha : a.size ≤ maxLen) (hb : b.size ≤ maxLen) (hz : a.size + b.size ≤ 1048576) :
    Calls Try.prog 8 #[.string a, .string b, .int .u8 c] w fun e w' => e = .returned (.bool true) ∧ w' = w := by
  have hc := bytes8 a b c w ha hb
  rw [decide_eq_true hz] at hc
  exact hc

set_option maxHeartbeats 400000 in
theorem insert_short (a b : ByteArray) (c : Int) (w : World) (ha : a.size ≤ maxLen) (hb : b.size ≤ maxLen) (hz : 1048576 < a.size + b.size) :
    Calls Try.prog 4 #[.string a, .string b, .int .u8 c] w fun e w' => e = .returned (.bool true) ∧ Below w.heap.size w w' := by
  go_enter Try.func4, Try.ntmps4
  go_wp2_with (go_at_call 8; refine (bytes8_no a b c _ ha hb hz).mono ?_; rintro e w' ⟨rfl, rfl⟩)
  go_ret
  exact ⟨rfl, Below.refl _ _⟩

set_option maxHeartbeats 400000 in
theorem insert_big (a b : ByteArray) (c : Int) (w : World) (ha : a.size ≤ maxLen) (hb : b.size ≤ maxLen) (hz : a.size + b.size ≤ 1048576) (hg : 65536 < a.size ∨ 65536 < b.size) :
    Calls Try.prog 4 #[.string a, .string b, .int .u8 c] w fun e w' => e = .returned (.bool true) ∧ Below w.heap.size w w' := by
  have ha' := ha
  have hb' := hb
  unfold maxLen at ha hb
  by_cases h1 : 65536 < a.size
  · go_enter Try.func4, Try.ntmps4
    go_wp2_with (go_at_call 8; refine (bytes8_yes a b c _ ha' hb' hz).mono ?_; rintro e w' ⟨rfl, rfl⟩)
    go_ret
    exact ⟨rfl, Below.refl _ _⟩
  · have h2 : 65536 < b.size := by omega
    clear hg
    go_enter Try.func4, Try.ntmps4
    go_wp2_with (go_at_call 8; refine (bytes8_yes a b c _ ha' hb' hz).mono ?_; rintro e w' ⟨rfl, rfl⟩)
    go_ret
    exact ⟨rfl, Below.refl _ _⟩

theorem conv1 (c : UInt8) (w : World) : (convert 27 9 (.slice (some ⟨w.heap.size, 0, none⟩) 1 1)).run Try.prog (w.alloc (Obj.cells #[Value.int IntKind.u8 (c.toNat : Int)] 5)) =
    .ok (.string ⟨#[c]⟩) (w.alloc (Obj.cells #[Value.int IntKind.u8 (c.toNat : Int)] 5)) := by
  refine run_convert_bytes_back (P := Try.prog) (w.alloc (Obj.cells #[Value.int IntKind.u8 (c.toNat : Int)] 5)) 27 9 5 ⟨w.heap.size, 0, none⟩ 1 [c] Try.underlying27 Try.underlying5 Try.underlying9 ?_
  intro j hj
  have : j = 0 := by simpa using hj
  subst this
  exact World.cell?_alloc_mark w _ 5 _ 0

set_option maxHeartbeats 1000000 in
theorem insert_go (a b one : ByteArray) (c : UInt8) (w : World) (ha : a.size ≤ 65536) (hb : b.size ≤ 65536) (hz : a.size + b.size ≤ 1048576) (ho : one.size = 1)
    (hcv : ∀ w : World, (convert 27 9 (.slice (some ⟨w.heap.size, 0, none⟩) 1 1)).run Try.prog (w.alloc (Obj.cells #[Value.int IntKind.u8 (c.toNat : Int)] 5)) = .ok (.string one) (w.alloc (Obj.cells #[Value.int IntKind.u8 (c.toNat : Int)] 5)))
    (x vc y : Bool) (hx : Hid (vld (a ++ one ++ b) = x)) (hv : Hid (vld one = vc)) (hvc : Hid (okb c = vc)) (hy : Hid (vld (a ++ b) = y))
    (hl : Hid ((vc && (decide (a.size + b.size = 0) || (y && decide (a.size + b.size < 64)))) = x)) :
    Calls Try.prog 4 #[.string a, .string b, .int .u8 (c.toNat : Int)] w fun e w' => e = .returned (.bool true) ∧ Below w.heap.size w w' := by
  go_enter Try.func4, Try.ntmps4
  go_wp2_with (go_at_call 8; refine (bytes8_yes a b _ _ (by unfold maxLen; omega) (by unfold maxLen; omega) hz).mono ?_; rintro e w' ⟨rfl, rfl⟩)
  refine (valid_of _ x hx.out _).mono ?_
  rintro e w1 ⟨rfl, hb1⟩
  go_wp2_with fail
  refine (valid_of _ vc hv.out _).mono ?_
  rintro e w2 ⟨rfl, hb2⟩
  go_wp2_with fail
  refine (tagByteB c vc hvc.out _).mono ?_
  rintro e w3 ⟨rfl, rfl⟩
  have B : Below w'.heap.size w' w3 := ((((Below.refl _ _).alloc (Nat.le_refl _) _)).trans (hb1.mono (by simp))).trans (hb2.mono (Nat.le_trans (by simp) hb1.size))
  cases vc
  · obtain rfl : x = false := by have := hl.out; simpa using this.symm
    go_wp2_with fail
    go_ret
    exact ⟨rfl, B⟩
  · by_cases hn : a.size + b.size = 0
    · obtain rfl : x = true := by have := hl.out; simpa [hn] using this.symm
      go_wp2_with fail
      go_ret
      exact ⟨rfl, B⟩
    · have hn' : ((a.size : Int) + (b.size : Int) == 0) = false := by rw [beq_eq_false_iff_ne]; omega
      cases y
      · obtain rfl : x = false := by have := hl.out; rw [decide_eq_false hn] at this; simpa using this.symm
        go_wp2_with fail
        refine (valid_of _ false hy.out _).mono ?_
        rintro e w4 ⟨rfl, hb4⟩
        go_wp2_with fail
        go_ret
        exact ⟨rfl, B.trans (hb4.mono B.size)⟩
      · by_cases hd : a.size + b.size < 64
        · obtain rfl : x = true := by have := hl.out; rw [decide_eq_false hn, decide_eq_true hd] at this; simpa using this.symm
          have hd' : decide ((a.size : Int) + (b.size : Int) < 64) = true := decide_eq_true (by omega)
          go_wp2_with fail
          refine (valid_of _ true hy.out _).mono ?_
          rintro e w4 ⟨rfl, hb4⟩
          go_wp2_with fail
          go_ret
          exact ⟨rfl, B.trans (hb4.mono B.size)⟩
        · obtain rfl : x = false := by have := hl.out; rw [decide_eq_false hn, decide_eq_false hd] at this; simpa using this.symm
          have hd' : decide ((a.size : Int) + (b.size : Int) < 64) = false := decide_eq_false (by omega)
          go_wp2_with fail
          refine (valid_of _ true hy.out _).mono ?_
          rintro e w4 ⟨rfl, hb4⟩
          go_wp2_with fail
          go_ret
          exact ⟨rfl, B.trans (hb4.mono B.size)⟩

theorem insert_law (a b : ByteArray) (c : UInt8) : (vld ⟨#[c]⟩ && (decide (a.size + b.size = 0) || (vld (a ++ b) && decide (a.size + b.size < 64)))) = vld (a ++ ⟨#[c]⟩ ++ b) := by
  unfold vld
  have e1 : a.size = a.data.toList.length := by simp
  have e2 : b.size = b.data.toList.length := by simp
  rw [data_append, data_append, data_append, e1, e2]
  exact (vldL_insert a.data.toList b.data.toList c).symm

theorem insert_any (a b : ByteArray) (c : Int) (w : World) (ha : a.size ≤ maxLen) (hb : b.size ≤ maxLen) (h0 : 0 ≤ c) (h1 : c ≤ 255) :
    Calls Try.prog 4 #[.string a, .string b, .int .u8 c] w fun e w' => e = .returned (.bool true) ∧ Below w.heap.size w w' := by
  by_cases hz : a.size + b.size ≤ 1048576
  · by_cases hg : 65536 < a.size ∨ 65536 < b.size
    · exact insert_big a b c w ha hb hz hg
    · obtain ⟨d, rfl⟩ : ∃ d : UInt8, c = (d.toNat : Int) := ⟨UInt8.ofNat c.toNat, by
        have : c.toNat % 256 = c.toNat := Nat.mod_eq_of_lt (by omega)
        simp [this]; omega⟩
      have h1 : vld ⟨#[d]⟩ = okb d := vldL_one d
      exact insert_go a b ⟨#[d]⟩ d w (by omega) (by omega) hz rfl (conv1 d) _ (okb d) _ rfl h1 rfl rfl (h1 ▸ insert_law a b d)
  · exact insert_short a b c w ha hb (by omega)

end Go.Proofs.Qxb6630699a

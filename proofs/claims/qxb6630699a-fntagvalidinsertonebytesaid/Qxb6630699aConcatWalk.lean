/-
  THE WALK OF FnTagValidConcatAtAnyCut.
-/
import Derived.Test.Qxb6630699aTagWalks
import Derived.Deep.RegionWith
import Derived.Deep.Cut
import Derived.Deep.CutRange
namespace Go.Proofs.Qxb6630699a
open Go.RowKit
set_option linter.unusedSimpArgs false
set_option linter.unusedVariables false

theorem bytes5_no (a b : ByteArray) (w : World) (ha : a.size ≤ maxLen) (hb : b.size ≤ maxLen) (hz : 1048576 < a.size + b.size) :
    Calls Try.prog 5 #[.string a, .string b] w fun e w' => e = .returned (.bool false) ∧ w' = w := by
  have hc := bytes5 a b w ha hb
  rw [decide_eq_false (by omega)] at hc
  exact hc
theorem bytes5_yes (a b : ByteArray) (w : World) (ha : a.size ≤ maxLen) (hb : b.size ≤ maxLen) (hz : a.size + b.size ≤ 1048576) :
    Calls Try.prog 5 #[.string a, .string b] w fun e w' => e = .returned (.bool true) ∧ w' = w := by
  have hc := bytes5 a b w ha hb
  rw [decide_eq_true hz] at hc
  exact hc

set_option maxHeartbeats 400000 in
theorem concat_short (a b : ByteArray) (w : World) (ha : a.size ≤ maxLen) (hb : b.size ≤ maxLen) (hz : 1048576 < a.size + b.size) :
    Calls Try.prog 3 #[.string a, .string b] w fun e w' => e = .returned (.bool true) ∧ Below w.heap.size w w' := by
  go_enter Try.func3, Try.ntmps3
  go_wp2_with (go_at_call 5; refine (bytes5_no a b _ ha hb hz).mono ?_; rintro e w' ⟨rfl, rfl⟩)
  go_ret
  exact ⟨rfl, Below.refl _ _⟩

set_option maxHeartbeats 400000 in
theorem concat_big (a b : ByteArray) (w : World) (ha : a.size ≤ maxLen) (hb : b.size ≤ maxLen) (hz : a.size + b.size ≤ 1048576) (hg : 65536 < a.size ∨ 65536 < b.size) :
    Calls Try.prog 3 #[.string a, .string b] w fun e w' => e = .returned (.bool true) ∧ Below w.heap.size w w' := by
  have ha' := ha
  have hb' := hb
  unfold maxLen at ha hb
  by_cases h1 : 65536 < a.size
  · go_enter Try.func3, Try.ntmps3
    go_wp2_with (go_at_call 5; refine (bytes5_yes a b _ ha' hb' hz).mono ?_; rintro e w' ⟨rfl, rfl⟩)
    go_ret
    exact ⟨rfl, Below.refl _ _⟩
  · have h2 : 65536 < b.size := by omega
    clear hg
    go_enter Try.func3, Try.ntmps3
    go_wp2_with (go_at_call 5; refine (bytes5_yes a b _ ha' hb' hz).mono ?_; rintro e w' ⟨rfl, rfl⟩)
    go_ret
    exact ⟨rfl, Below.refl _ _⟩

theorem valid_of (s : ByteArray) (x : Bool) (h : vld s = x) (w : World) :
    Calls Try.prog 6 #[.string s] w fun e w' => e = .returned (.bool x) ∧ Below w.heap.size w w' := by
  subst h; exact valid_any s w
theorem tagByte_of (c : Int) (x : Bool) (h : okc c = x) (h0 : 0 ≤ c) (h1 : c ≤ 255) (w : World) :
    Calls Try.prog 7 #[.int .u8 c] w fun e w' => e = .returned (.bool x) ∧ w' = w := by
  subst h; exact tagByte_any c w h0 h1

/-- What 'want' is, over the three answers. -/
def CLaw (ea eb x y z d : Bool) : Prop := (if ea then z else if eb then y else (y && z && d)) = x

theorem tagByteB (c : UInt8) (x : Bool) (h : okb c = x) (w : World) :
    Calls Try.prog 7 #[.int .u8 (c.toNat : Int)] w fun e w' => e = .returned (.bool x) ∧ w' = w :=
  tagByte_of _ x h (by omega) (by have := c.toNat_lt; omega) w

set_option maxHeartbeats 1600000 in
theorem concat_ab (a b : ByteArray) (w : World) (ha : a.size ≤ 65536) (hb : b.size ≤ 65536) (hz : a.size + b.size ≤ 1048576)
    (ea eb x y z fa fb d : Bool) (hea : a.toList.isEmpty = ea) (heb : b.toList.isEmpty = eb) (hx : Hid (vld (a ++ b) = x)) (hy : Hid (vld a = y)) (hzz : Hid (vld b = z))
    (hfa : Hid (0 < a.size → vld (a.extract 0 1) = fa)) (hfb : Hid (0 < b.size → vld (b.extract 0 1) = fb))
    (hta : Hid (∀ h : 0 < a.size, okb (a[0]'h) = fa)) (htb : Hid (∀ h : 0 < b.size, okb (b[0]'h) = fb))
    (hl : CLaw ea eb x y z d) (hd : Hid (decide (a.size + b.size ≤ 64) = d)) :
    Calls Try.prog 3 #[.string a, .string b] w fun e w' => e = .returned (.bool true) ∧ Below w.heap.size w w' := by
  go_enter Try.func3, Try.ntmps3
  go_wp2_with (go_at_call 5; refine (bytes5_yes a b _ (by unfold maxLen; omega) (by unfold maxLen; omega) hz).mono ?_; rintro e w' ⟨rfl, rfl⟩)
  refine (valid_of _ x hx.out _).mono ?_
  rintro e w1 ⟨rfl, hb1⟩
  go_wp2_with fail
  refine (valid_of _ y hy.out _).mono ?_
  rintro e w2 ⟨rfl, hb2⟩
  go_wp2_with fail
  refine (valid_of _ z hzz.out _).mono ?_
  rintro e w3 ⟨rfl, hb3⟩
  go_upto_if 30 with fail
  go_cut [8] from 31 (fun v wc => v = .bool x ∧ w3 = wc)
  case first =>
    cases ea <;> cases eb <;> cases y <;> cases z
    all_goals
      go_wp2
      go_meet
      case rel =>
        refine ⟨congrArg Value.bool ?_, rfl⟩
        first
          | exact hl
          | exact (decide_eq_decide.2 (by omega)).trans (hd.out.trans hl)
  case rest =>
    obtain ⟨rfl, rfl⟩ := hcut
    go_upto_if 52 with fail
    go_cut [] from 50 (fun w4 => Below w3.heap.size w3 w4)
    case first =>
      go_wp2_with fail
      · go_cut [59] from 50 to 58 (fun v w4 => v = .bool false ∧ Below w3.heap.size w3 w4)
        case first =>
          go_region_with (first
            | (go_at_call 6; refine (valid_of _ fa (hfa.out (by assumption)) _).mono ?_; rintro e w' ⟨rfl, hbq⟩)
            | (go_at_call 7; refine (tagByteB _ fa (hta.out _) _).mono ?_; rintro e w' ⟨rfl, rfl⟩))
          all_goals
            go_wp2_with fail
            go_meet
            exact ⟨rfl, (Below.refl _ w3).drew.trans hbq⟩
        case rest =>
          obtain ⟨rfl, hcb⟩ := hcut
          go_wp2_with fail
          go_meet
          exact hcb
      · go_meet
        exact Below.refl _ _
    case rest =>
      have B4 : Below w'.heap.size w' wc := (((hb1.trans (hb2.mono hb1.size)).trans (hb3.mono (Nat.le_trans hb1.size hb2.size)))).trans (hcut.mono (Nat.le_trans hb1.size (Nat.le_trans hb2.size hb3.size)))
      go_wp2_with fail
      · go_cut [69] from 60 to 68 (fun v w4 => v = .bool false ∧ Below w'.heap.size w' w4)
        case first =>
          go_region_with (first
            | (go_at_call 6; refine (valid_of _ fb (hfb.out (by assumption)) _).mono ?_; rintro e w' ⟨rfl, hbq⟩)
            | (go_at_call 7; refine (tagByteB _ fb (htb.out _) _).mono ?_; rintro e w' ⟨rfl, rfl⟩))
          all_goals
            go_wp2_with fail
            go_meet
            exact ⟨rfl, B4.drew.trans (hbq.mono B4.size)⟩
        case rest =>
          obtain ⟨rfl, hcb⟩ := hcut
          go_wp2_with fail
          go_ret
          exact ⟨rfl, hcb⟩
      · go_ret
        exact ⟨rfl, B4⟩

theorem data_append (a b : ByteArray) : (a ++ b).data.toList = a.data.toList ++ b.data.toList := by simp

theorem vld_append (a b : ByteArray) : CLaw a.toList.isEmpty b.toList.isEmpty (vld (a ++ b)) (vld a) (vld b) (decide (a.size + b.size ≤ 64)) := by
  unfold CLaw vld
  rw [toList_eq, toList_eq, data_append]
  cases ha : a.data.toList with
  | nil => simp
  | cons p l =>
    cases hb : b.data.toList with
    | nil => simp
    | cons q m =>
      have e1 : a.size = (p :: l).length := by rw [← ha]; simp
      have e2 : b.size = (q :: m).length := by rw [← hb]; simp
      rw [e1, e2]
      simp only [List.isEmpty_cons, Bool.false_eq_true, if_false]
      exact (vldL_append (p :: l) (q :: m) (by simp) (by simp)).symm

theorem vld_first (a : ByteArray) (h : 0 < a.size) : vld (a.extract 0 1) = okb (a[0]'h) := by
  have e : (a.extract 0 1).data.toList = [a[0]'h] := by
    have h' : 0 < a.data.toList.length := by simpa using h
    have : (a.extract 0 1).data.toList = a.data.toList.take 1 := by simp
    rw [this]
    cases ha : a.data.toList with
    | nil => rw [ha] at h'; simp at h'
    | cons p l =>
      have : a[0]'h = a.data.toList[0]'h' := rfl
      rw [this]
      simp [ha]
  unfold vld
  rw [e, vldL_one]

theorem concat_any (a b : ByteArray) (w : World) (ha : a.size ≤ maxLen) (hb : b.size ≤ maxLen) :
    Calls Try.prog 3 #[.string a, .string b] w fun e w' => e = .returned (.bool true) ∧ Below w.heap.size w w' := by
  by_cases hz : a.size + b.size ≤ 1048576
  · by_cases hg : 65536 < a.size ∨ 65536 < b.size
    · exact concat_big a b w ha hb hz hg
    · refine concat_ab a b w (by omega) (by omega) hz _ _ _ _ _ (vld (a.extract 0 1)) (vld (b.extract 0 1)) _ rfl rfl rfl rfl rfl (fun _ => rfl) (fun _ => rfl)
        (fun h => (vld_first a h).symm) (fun h => (vld_first b h).symm) (vld_append a b) rfl
  · exact concat_short a b w ha hb (by omega)

end Go.Proofs.Qxb6630699a

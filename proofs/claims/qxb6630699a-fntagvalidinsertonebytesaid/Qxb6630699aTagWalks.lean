/-
  THE WALKS OF SEAT b6630699a: a contract a function.
-/
import Derived.Test.Qxb6630699aRows
import Derived.Test.Qxb6630699aTagPlain
import Derived.WalkKit
import Derived.WalkSpells
import Derived.WalkLawsBesides
namespace Go.Proofs.Qxb6630699a
open Go.RowKit
set_option linter.unusedSimpArgs false
set_option linter.unusedVariables false

theorem or32F : ∀ n : Fin 256, (97 ≤ bits BinOp.or IntKind.u8 (n.val : Int) 32 ∧ bits BinOp.or IntKind.u8 (n.val : Int) 32 ≤ 122) ↔ ((97 ≤ (n.val : Int) ∧ (n.val : Int) ≤ 122) ∨ (65 ≤ (n.val : Int) ∧ (n.val : Int) ≤ 90)) := by
  decide +kernel

theorem or32 (c : Int) (h0 : 0 ≤ c) (h1 : c ≤ 255) : (97 ≤ bits BinOp.or IntKind.u8 c 32 ∧ bits BinOp.or IntKind.u8 c 32 ≤ 122) ↔ ((97 ≤ c ∧ c ≤ 122) ∨ (65 ≤ c ∧ c ≤ 90)) := by
  obtain ⟨n, rfl⟩ : ∃ n : Fin 256, c = (n.val : Int) := ⟨⟨c.toNat, by omega⟩, by simp; omega⟩
  exact or32F n

theorem ret_bool {a b : Bool} (h : a = b) : Ending.returned (.bool a) = .returned (.bool b) := by rw [h]

set_option maxHeartbeats 400000 in
theorem tagByte_any (c : Int) (w : World) (h0 : 0 ≤ c) (h1 : c ≤ 255) :
    Calls Try.prog 7 #[.int .u8 c] w fun e w' => e = .returned (.bool (okc c)) ∧ w' = w := by
  go_enter Try.func7, Try.ntmps7
  go_wp2
  all_goals
    go_ret
    refine ⟨ret_bool ?_, rfl⟩
    have hb := or32 c h0 h1
    try simp only [beq_iff_eq, beq_eq_false_iff_ne, ne_eq] at *
    first
      | exact ((okc_iff c).2 (by omega)).symm
      | exact ((okc_no c).2 (by omega)).symm

theorem toList_eq (s : ByteArray) : s.toList = s.data.toList := ByteArray.toList_eq s

theorem take_snoc (s : ByteArray) (k : Nat) (h : k < s.size) : s.data.toList.take (k + 1) = s.data.toList.take k ++ [s[k]] := by
  rw [List.take_succ_eq_append_getElem (by simpa using h)]; rfl

theorem vld_empty (s : ByteArray) (h : s.toList = []) : vld s = false := by
  rw [toList_eq] at h; simp [vld, h, vldL]
theorem vld_long (s : ByteArray) (h : 64 < s.size) : vld s = false := by
  have h' : ¬ s.size ≤ 64 := by omega
  simp [vld, vldL, h']

set_option maxHeartbeats 400000 in
theorem valid_empty (s : ByteArray) (w : World) (h0 : s.toList.isEmpty = true) :
    Calls Try.prog 6 #[.string s] w fun e w' => e = .returned (.bool (vld s)) ∧ Below w.heap.size w w' := by
  go_enter Try.func6, Try.ntmps6
  go_wp2
  go_ret
  exact ⟨ret_bool (vld_empty s (by simpa using h0)).symm, Below.refl _ _⟩

set_option maxHeartbeats 400000 in
theorem valid_long (s : ByteArray) (w : World) (h0 : s.toList.isEmpty = false) (h1 : 64 < s.size) :
    Calls Try.prog 6 #[.string s] w fun e w' => e = .returned (.bool (vld s)) ∧ Below w.heap.size w w' := by
  go_enter Try.func6, Try.ntmps6
  go_wp2
  go_ret
  exact ⟨ret_bool (vld_long s h1).symm, Below.refl _ _⟩

theorem row_at (s : ByteArray) (k : Nat) (h : k < s.size) (cap : Nat) : (bytesRow s cap)[k]? = some (.int .u8 ((s[k]).toNat : Int)) := by
  have h' : k < s.data.size := h
  have e : s.data[k]? = some s.data[k] := Array.getElem?_eq_getElem h'
  simp only [bytesRow, Array.getElem?_append, Array.size_map, h', if_true, Array.getElem?_map, e]
  rfl

theorem byte_at (s : ByteArray) (k : Nat) (h : k < s.size) : ∃ c : Int, 0 ≤ c ∧ c ≤ 255 ∧ Hid (okb s[k] = okc c) ∧ ∀ cap, (bytesRow s cap)[k]? = some (.int .u8 c) :=
  ⟨((s[k]).toNat : Int), by omega, by have := (s[k]).toNat_lt; omega, rfl, row_at s k h⟩

theorem all_step (s : ByteArray) (k : Nat) (h : k < s.size) (ha : (s.data.toList.take k).all okb = true) (c : Int) (hc : okb s[k] = okc c) (hok : okc c = true) : (s.data.toList.take (k + 1)).all okb = true := by
  rw [take_snoc s k h, List.all_append, ha]
  simp [hc, hok]

theorem vld_stop (s : ByteArray) (k : Nat) (h : k < s.size) (c : Int) (hc : okb s[k] = okc c) (hok : okc c = false) : vld s = false := by
  have hm : s[k] ∈ s.data.toList := by
    have : s[k] = s.data.toList[k]'(by simpa using h) := rfl
    rw [this]
    exact List.getElem_mem _
  have : s.data.toList.all okb = false := by
    rw [List.all_eq_false]
    exact ⟨_, hm, by rw [hc, hok]; simp⟩
  simp only [vld, vldL, this, Bool.and_false]

theorem vld_done (s : ByteArray) (h0 : s.toList.isEmpty = false) (h1 : s.size ≤ 64) (k : Nat) (hk : k ≤ s.size) (hn : ¬ k < s.size) (ha : (s.data.toList.take k).all okb = true) : vld s = true := by
  have e : s.data.toList.length = s.size := by simp
  rw [List.take_of_length_le (by omega)] at ha
  rw [toList_eq] at h0
  simp only [vld, vldL, h0, ha, e, h1]
  rfl

set_option maxHeartbeats 400000 in
theorem valid_mid (s : ByteArray) (w : World) (h0 : s.toList.isEmpty = false) (h1 : s.size ≤ 64) :
    Calls Try.prog 6 #[.string s] w fun e w' => e = .returned (.bool (vld s)) ∧ Below w.heap.size w w' := by
  have hcv := fun (w : World) => run_bytes_of_string (P := Try.prog) w 23 27 5 s Try.underlying23 Try.underlying27 Try.underlying5
  go_enter Try.func6, Try.ntmps6
  go_wp2
  go_loop [15] (fun i => ∃ k : Nat, k ≤ s.size ∧ i = .int .i64 k ∧ (s.data.toList.take k).all okb = true) (fun i => s.size - (intOf i).toNat)
  case atStart => exact ⟨0, Nat.zero_le _, rfl, rfl⟩
  case round =>
    obtain ⟨k, hk, rfl, hall⟩ := hrel
    by_cases hlt : k < s.size
    · obtain ⟨c, hc0, hc1, hcb, hrow⟩ := byte_at s k hlt
      have HA : Hid ((s.data.toList.take k).all okb = true) := hall
      clear hall
      have hcell : ∀ C n, ((w.alloc (Obj.cells C 5 n)).drew).cell? ⟨w.heap.size, k, none⟩ = C[k]? := fun C n => World.cell?_alloc_mark w C 5 n k
      go_wp2
      all_goals
        first
          | (go_ret
             refine ⟨ret_bool (vld_stop s k hlt c hcb.out ?_).symm, ((Below.refl _ _).alloc (Nat.le_refl _) _).drew⟩
             rw [okc_no]
             try simp only [bne_iff_ne, ne_eq, bne_eq_false_iff_eq] at *
             omega)
          | (go_round
             case rel =>
               refine ⟨k + 1, by omega, by go_num, all_step s k hlt HA.out c hcb.out ?_⟩
               rw [okc_iff]
               try simp only [bne_iff_ne, ne_eq, bne_eq_false_iff_eq] at *
               omega
             case measure => simp [intOf]; omega)
    · go_wp2
      go_ret
      exact ⟨ret_bool (vld_done s h0 h1 k hk hlt hall).symm, ((Below.refl _ _).alloc (Nat.le_refl _) _).drew⟩

theorem valid_any (s : ByteArray) (w : World) :
    Calls Try.prog 6 #[.string s] w fun e w' => e = .returned (.bool (vld s)) ∧ Below w.heap.size w w' := by
  cases h0 : s.toList.isEmpty
  · by_cases h1 : s.size ≤ 64
    · exact valid_mid s w h0 h1
    · exact valid_long s w h0 (by omega)
  · exact valid_empty s w h0

set_option maxHeartbeats 400000 in
theorem bytes5 (a b : ByteArray) (w : World) (ha : a.size ≤ maxLen) (hb : b.size ≤ maxLen) :
    Calls Try.prog 5 #[.string a, .string b] w fun e w' => e = .returned (.bool (decide (a.size + b.size ≤ 1048576))) ∧ w' = w := by
  unfold maxLen at ha hb
  go_enter Try.func5, Try.ntmps5
  go_wp2
  all_goals
    go_ret
    refine ⟨ret_bool ?_, rfl⟩
    symm
    first
      | exact decide_eq_true (by omega)
      | exact decide_eq_false (by omega)

set_option maxHeartbeats 400000 in
theorem bytes8 (a b : ByteArray) (c : Int) (w : World) (ha : a.size ≤ maxLen) (hb : b.size ≤ maxLen) :
    Calls Try.prog 8 #[.string a, .string b, .int .u8 c] w fun e w' => e = .returned (.bool (decide (a.size + b.size ≤ 1048576))) ∧ w' = w := by
  unfold maxLen at ha hb
  go_enter Try.func8, Try.ntmps8
  go_wp2
  all_goals
    go_ret
    refine ⟨ret_bool ?_, rfl⟩
    symm
    first
      | exact decide_eq_true (by omega)
      | exact decide_eq_false (by omega)

end Go.Proofs.Qxb6630699a

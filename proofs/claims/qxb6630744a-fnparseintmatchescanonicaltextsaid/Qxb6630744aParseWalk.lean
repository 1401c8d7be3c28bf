/-
  THE WALK OF resp.ParseInt.
-/
import Derived.Test.Qxb6630744aRows
import Derived.Test.Qxb6630744aTextPlain
import Derived.WalkKit
import Derived.WalkSpells
import Derived.WalkLawsBesides
namespace Go.Proofs.Qxb6630744a
open Go.RowKit
set_option linter.unusedSimpArgs false
set_option linter.unusedVariables false

set_option maxHeartbeats 400000 in
theorem parse_nil (a : Option Addr) (cap : Nat) (w : World) :
    Calls Try.prog 7 #[.slice a 0 cap] w fun e w' => e = .returned (.tuple #[.int .i64 0, .bool false]) ∧ w' = w := by
  go_enter Try.func7, Try.ntmps7
  go_wp2
  go_ret2
  exact ⟨rfl, rfl⟩

theorem int_eq {k : IntKind} {a b : Int} (h : a = b) : Value.int k a = .int k b := by rw [h]
theorem wrap_least (v : Nat) (h : ¬ v ≤ 9223372036854775807) (h' : ¬ 9223372036854775808 < v) : wrap64 (-wrap64 (v : Int)) = -(v : Int) := by
  unfold wrap64; omega
theorem ret_two {a a' : Int} {x x' : Bool} (h : a' = a ∧ x' = x) : Ending.returned (.tuple #[.int .i64 a, .bool x]) = .returned (.tuple #[.int .i64 a', .bool x']) := by rw [h.1, h.2]

set_option maxHeartbeats 400000 in
theorem pos_core (b off cap n : Nat) (z : Nat → Int) (V : Nat → Nat) (w : World) (r : Int) (ok : Bool)
    (hr : ∀ i, i < n → w.cell? ⟨b, off + i, none⟩ = some (.int .u8 (z i))) (hz : ∀ i, 0 ≤ z i ∧ z i ≤ 255)
    (hn1 : 1 ≤ n) (hn2 : n ≤ 19) (h45 : (z 0 == 45) = false) (h48 : (z 0 == 48) = false ∨ ((z 0 == 48) = true ∧ n ≤ 1)) (hcap : n ≤ cap) (hm : cap ≤ maxLen)
    (HV0 : Hid (V 0 = 0)) (HV : Hid (∀ k, V (k + 1) = V k * 10 + (z k - 48).toNat)) (HB : Hid (∀ k, (∀ j, j < k → 48 ≤ z j ∧ z j ≤ 57) → V k < 10 ^ k))
    (Hyes : Hid ((∀ j, j < n → 48 ≤ z j ∧ z j ≤ 57) → V n ≤ 9223372036854775807 → r = (V n : Int) ∧ ok = true))
    (Hno : Hid (∀ k, k < n → ¬ (48 ≤ z k ∧ z k ≤ 57) → r = 0 ∧ ok = false))
    (Hbig : Hid ((∀ j, j < n → 48 ≤ z j ∧ z j ≤ 57) → 9223372036854775807 < V n → r = 0 ∧ ok = false)) :
    Calls Try.prog 7 #[.slice (some ⟨b, off, none⟩) n cap] w fun e w' => e = .returned (.tuple #[.int .i64 r, .bool ok]) ∧ w' = w := by
  unfold maxLen at hm
  have hc0 := hr 0 (by omega)
  rw [Nat.add_zero] at hc0
  have hlen : ((n : Int) == 0) = false := by rw [beq_eq_false_iff_ne]; omega
  rcases h48 with h48 | ⟨h48, hn3⟩
  all_goals
    go_enter Try.func7, Try.ntmps7
    go_wp2
    go_loop [5, 41] (fun t i => ∃ k : Nat, k ≤ n ∧ i = .int .i64 k ∧ t = .int .u64 (V k : Int) ∧ ∀ j, j < k → 48 ≤ z j ∧ z j ≤ 57) (fun _ i => n - (intOf i).toNat)
    case atStart => exact ⟨0, Nat.zero_le _, rfl, by rw [HV0.out]; rfl, fun j hj => absurd hj (by omega)⟩
    case round =>
      obtain ⟨k, hk, rfl, rfl, hall⟩ := hrel
      have HA : Hid (∀ j, j < k → 48 ≤ z j ∧ z j ≤ 57) := hall
      have hb := HB.out k hall
      clear hall
      by_cases hlt : k < n
      · have hb1 : V k ≤ 999999999999999999 := by
          have : 10 ^ k ≤ 10 ^ 18 := Nat.pow_le_pow_right (by omega) (by omega)
          omega
        clear hb
        have hck := hr k hlt
        have hzk := hz k
        by_cases hd : 48 ≤ z k ∧ z k ≤ 57
        · obtain ⟨hd1, hd2⟩ := hd
          go_wp2
          go_round
          case rel => exact ⟨k + 1, by omega, by go_num, int_eq (by rw [HV.out k]; omega), fun j hj => by rcases Nat.lt_succ_iff_lt_or_eq.1 hj with h | h; exact HA.out j h; subst h; exact ⟨hd1, hd2⟩⟩
          case measure => simp [intOf]; omega
        · by_cases hd1 : z k < 48
          · go_wp2
            go_ret2
            exact ⟨ret_two (Hno.out k hlt hd), rfl⟩
          · have hd2 : 57 < z k := by omega
            have HD : Hid (¬ (48 ≤ z k ∧ z k ≤ 57)) := hd
            clear hd
            go_wp2
            go_ret2
            exact ⟨ret_two (Hno.out k hlt HD.out), rfl⟩
      · have hb1 : V k ≤ 9999999999999999999 := by
          have : 10 ^ k ≤ 10 ^ 19 := Nat.pow_le_pow_right (by omega) (by omega)
          omega
        clear hb
        have HK : Hid (k = n) := by show k = n; omega
        by_cases hv : V k ≤ 9223372036854775807
        · go_wp2
          go_ret2
          refine ⟨ret_two ?_, rfl⟩
          have hk' := HK.out
          subst hk'
          exact Hyes.out HA.out hv
        · have hv' : 9223372036854775807 < V k := by omega
          clear hv
          go_wp2
          go_ret2
          refine ⟨ret_two ?_, rfl⟩
          have hk' := HK.out
          subst hk'
          exact Hbig.out HA.out hv'

set_option maxHeartbeats 400000 in
theorem pos_long (b off cap n : Nat) (z : Int) (w : World) (hr : w.cell? ⟨b, off, none⟩ = some (.int .u8 z)) (hn : 19 < n) (h45 : (z == 45) = false) (hcap : n ≤ cap) (hm : cap ≤ maxLen) :
    Calls Try.prog 7 #[.slice (some ⟨b, off, none⟩) n cap] w fun e w' => e = .returned (.tuple #[.int .i64 0, .bool false]) ∧ w' = w := by
  unfold maxLen at hm
  have hlen : ((n : Int) == 0) = false := by rw [beq_eq_false_iff_ne]; omega
  go_enter Try.func7, Try.ntmps7
  go_wp2
  go_ret2
  exact ⟨rfl, rfl⟩

set_option maxHeartbeats 400000 in
theorem pos_zero (b off cap n : Nat) (z : Int) (w : World) (hr : w.cell? ⟨b, off, none⟩ = some (.int .u8 z)) (hn1 : 1 < n) (hn : n ≤ 19) (h45 : (z == 45) = false) (h48 : (z == 48) = true) (hcap : n ≤ cap) (hm : cap ≤ maxLen) :
    Calls Try.prog 7 #[.slice (some ⟨b, off, none⟩) n cap] w fun e w' => e = .returned (.tuple #[.int .i64 0, .bool false]) ∧ w' = w := by
  unfold maxLen at hm
  have hlen : ((n : Int) == 0) = false := by rw [beq_eq_false_iff_ne]; omega
  go_enter Try.func7, Try.ntmps7
  go_wp2
  go_ret2
  exact ⟨rfl, rfl⟩

set_option maxHeartbeats 400000 in
theorem neg_lone (b off cap : Nat) (y : Int) (w : World) (hr : w.cell? ⟨b, off, none⟩ = some (.int .u8 y)) (h45 : (y == 45) = true) (hcap : 1 ≤ cap) (hm : cap ≤ maxLen) :
    Calls Try.prog 7 #[.slice (some ⟨b, off, none⟩) 1 cap] w fun e w' => e = .returned (.tuple #[.int .i64 0, .bool false]) ∧ w' = w := by
  unfold maxLen at hm
  go_enter Try.func7, Try.ntmps7
  go_wp2
  all_goals
    go_ret2
    exact ⟨rfl, rfl⟩

set_option maxHeartbeats 400000 in
theorem neg_long (b off cap n : Nat) (y : Int) (w : World) (hr : w.cell? ⟨b, off, none⟩ = some (.int .u8 y)) (hn : 19 < n) (h45 : (y == 45) = true) (hcap : n + 1 ≤ cap) (hm : cap ≤ maxLen) :
    Calls Try.prog 7 #[.slice (some ⟨b, off, none⟩) (n + 1) cap] w fun e w' => e = .returned (.tuple #[.int .i64 0, .bool false]) ∧ w' = w := by
  unfold maxLen at hm
  have hlen : ((n : Int) == 0) = false := by rw [beq_eq_false_iff_ne]; omega
  go_enter Try.func7, Try.ntmps7
  go_wp2
  go_ret2
  exact ⟨rfl, rfl⟩

set_option maxHeartbeats 400000 in
theorem neg_zero (b off cap n : Nat) (y z : Int) (w : World) (hr : w.cell? ⟨b, off, none⟩ = some (.int .u8 y)) (hr1 : w.cell? ⟨b, off + 1, none⟩ = some (.int .u8 z)) (hn1 : 1 ≤ n) (hn : n ≤ 19) (h45 : (y == 45) = true) (h48 : (z == 48) = true) (hcap : n + 1 ≤ cap) (hm : cap ≤ maxLen) :
    Calls Try.prog 7 #[.slice (some ⟨b, off, none⟩) (n + 1) cap] w fun e w' => e = .returned (.tuple #[.int .i64 0, .bool false]) ∧ w' = w := by
  unfold maxLen at hm
  have hlen : ((n : Int) == 0) = false := by rw [beq_eq_false_iff_ne]; omega
  go_enter Try.func7, Try.ntmps7
  go_wp2
  go_ret2
  exact ⟨rfl, rfl⟩

set_option maxHeartbeats 400000 in
theorem neg_core (b off cap n : Nat) (y : Int) (z : Nat → Int) (V : Nat → Nat) (w : World) (r : Int) (ok : Bool)
    (hy : w.cell? ⟨b, off, none⟩ = some (.int .u8 y)) (h45 : (y == 45) = true)
    (hr : ∀ i, i < n → w.cell? ⟨b, off + 1 + i, none⟩ = some (.int .u8 (z i))) (hz : ∀ i, 0 ≤ z i ∧ z i ≤ 255)
    (hn1 : 1 ≤ n) (hn2 : n ≤ 19) (h48 : (z 0 == 48) = false) (hcap : n + 1 ≤ cap) (hm : cap ≤ maxLen)
    (HV0 : Hid (V 0 = 0)) (HV : Hid (∀ k, V (k + 1) = V k * 10 + (z k - 48).toNat)) (HB : Hid (∀ k, (∀ j, j < k → 48 ≤ z j ∧ z j ≤ 57) → V k < 10 ^ k))
    (Hyes : Hid ((∀ j, j < n → 48 ≤ z j ∧ z j ≤ 57) → V n ≤ 9223372036854775808 → r = -(V n : Int) ∧ ok = true))
    (Hno : Hid (∀ k, k < n → ¬ (48 ≤ z k ∧ z k ≤ 57) → r = 0 ∧ ok = false))
    (Hbig : Hid ((∀ j, j < n → 48 ≤ z j ∧ z j ≤ 57) → 9223372036854775808 < V n → r = 0 ∧ ok = false)) :
    Calls Try.prog 7 #[.slice (some ⟨b, off, none⟩) (n + 1) cap] w fun e w' => e = .returned (.tuple #[.int .i64 r, .bool ok]) ∧ w' = w := by
  unfold maxLen at hm
  have hc0 := hr 0 (by omega)
  rw [Nat.add_zero] at hc0
  have hlen : ((n : Int) == 0) = false := by rw [beq_eq_false_iff_ne]; omega
  have hlen2 : ((n : Int) == (n : Int) + 1) = false := by rw [beq_eq_false_iff_ne]; omega
  go_enter Try.func7, Try.ntmps7
  go_wp2
  go_loop [5, 41] (fun t i => ∃ k : Nat, k ≤ n ∧ i = .int .i64 k ∧ t = .int .u64 (V k : Int) ∧ ∀ j, j < k → 48 ≤ z j ∧ z j ≤ 57) (fun _ i => n - (intOf i).toNat)
  case atStart => exact ⟨0, Nat.zero_le _, rfl, by rw [HV0.out]; rfl, fun j hj => absurd hj (by omega)⟩
  case round =>
    obtain ⟨k, hk, rfl, rfl, hall⟩ := hrel
    have HA : Hid (∀ j, j < k → 48 ≤ z j ∧ z j ≤ 57) := hall
    have hb := HB.out k hall
    clear hall
    by_cases hlt : k < n
    · have hb1 : V k ≤ 999999999999999999 := by
        have : 10 ^ k ≤ 10 ^ 18 := Nat.pow_le_pow_right (by omega) (by omega)
        omega
      clear hb
      have hck := hr k hlt
      have hzk := hz k
      by_cases hd : 48 ≤ z k ∧ z k ≤ 57
      · obtain ⟨hd1, hd2⟩ := hd
        go_wp2
        go_round
        case rel => exact ⟨k + 1, by omega, by go_num, int_eq (by rw [HV.out k]; omega), fun j hj => by rcases Nat.lt_succ_iff_lt_or_eq.1 hj with h | h; exact HA.out j h; subst h; exact ⟨hd1, hd2⟩⟩
        case measure => simp [intOf]; omega
      · by_cases hd1 : z k < 48
        · go_wp2
          go_ret2
          exact ⟨ret_two (Hno.out k hlt hd), rfl⟩
        · have hd2 : 57 < z k := by omega
          have HD : Hid (¬ (48 ≤ z k ∧ z k ≤ 57)) := hd
          clear hd
          go_wp2
          go_ret2
          exact ⟨ret_two (Hno.out k hlt HD.out), rfl⟩
    · have hb1 : V k ≤ 9999999999999999999 := by
        have : 10 ^ k ≤ 10 ^ 19 := Nat.pow_le_pow_right (by omega) (by omega)
        omega
      clear hb
      have HK : Hid (k = n) := by show k = n; omega
      by_cases hv : V k ≤ 9223372036854775807
      · go_wp2
        go_ret2
        refine ⟨ret_two ?_, rfl⟩
        have hk' := HK.out
        subst hk'
        exact Hyes.out HA.out (by omega)
      · by_cases hv' : 9223372036854775808 < V k
        · clear hv
          go_wp2
          go_ret2
          refine ⟨ret_two ?_, rfl⟩
          have hk' := HK.out
          subst hk'
          exact Hbig.out HA.out hv'
        · go_wp2
          go_ret2
          refine ⟨ret_two ?_, rfl⟩
          have hk' := HK.out
          subst hk'
          rw [wrap_least _ hv hv']
          exact Hyes.out HA.out (by omega)

/-! ### ParseInt, whole: on a row of bytes -/

/-- The cells at b, off .. hold the bytes l. -/
def Row (w : World) (b off : Nat) (l : List Int) : Prop :=
  (∀ i, i < l.length → w.cell? ⟨b, off + i, none⟩ = some (.int .u8 (l.getD i 0))) ∧ ∀ c ∈ l, 0 ≤ c ∧ c ≤ 255

theorem getD_bd {l : List Int} (h : ∀ c ∈ l, 0 ≤ c ∧ c ≤ 255) (i : Nat) : 0 ≤ l.getD i 0 ∧ l.getD i 0 ≤ 255 := by
  by_cases hi : i < l.length
  · have : l.getD i 0 = l[i] := by simp [List.getD, hi]
    rw [this]
    exact h _ (List.getElem_mem hi)
  · have : l.getD i 0 = 0 := by simp [List.getD, hi]
    rw [this]; omega

end Go.Proofs.Qxb6630744a

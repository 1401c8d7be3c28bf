/-
  THE WALK OF zzModel.
-/
import Derived.Test.Qxb6630744aEqualWalk
namespace Go.Proofs.Qxb6630744a
open Go.RowKit
set_option linter.unusedSimpArgs false
set_option linter.unusedVariables false

set_option maxHeartbeats 400000 in
theorem model_nil (a : Option Addr) (cap : Nat) (w : World) :
    Calls Try.prog 6 #[.slice a 0 cap] w fun e w' => e = .returned (.tuple #[.int .i64 0, .bool false]) ∧ Below w.heap.size w w' := by
  go_enter Try.func6, Try.ntmps6
  go_wp2
  go_ret2
  exact ⟨rfl, Below.refl _ _⟩

set_option maxHeartbeats 400000 in
theorem model_lone (b off cap : Nat) (y : Int) (w : World) (hy : w.cell? ⟨b, off, none⟩ = some (.int .u8 y)) (h45 : (y == 45) = true) (hcap : 1 ≤ cap) (hm : cap ≤ maxLen) :
    Calls Try.prog 6 #[.slice (some ⟨b, off, none⟩) 1 cap] w fun e w' => e = .returned (.tuple #[.int .i64 0, .bool false]) ∧ Below w.heap.size w w' := by
  unfold maxLen at hm
  go_enter Try.func6, Try.ntmps6
  go_wp2
  all_goals
    go_ret2
    exact ⟨rfl, Below.refl _ _⟩

set_option maxHeartbeats 400000 in
theorem model_pos (b off cap n : Nat) (l : List Int) (z : Nat → Int) (V : Nat → Nat) (w : World) (r : Int) (ok : Bool)
    (hrow : Row w b off l) (Hn : Hid (n = l.length))
    (hr : ∀ i, i < n → w.cell? ⟨b, off + i, none⟩ = some (.int .u8 (z i))) (hz : ∀ i, 0 ≤ z i ∧ z i ≤ 255)
    (hn1 : 1 ≤ n) (h45 : (z 0 == 45) = false) (hcap : n ≤ cap) (hm : cap ≤ maxLen)
    (HV0 : Hid (V 0 = 0)) (HV : Hid (∀ k, V (k + 1) = V k * 10 + (z k - 48).toNat))
    (Hyes : Hid ((∀ j, j < n → 48 ≤ z j ∧ z j ≤ 57) → V n ≤ 9223372036854775807 → ∀ q : Bool, decide (text (V n : Int) = l) = q → r = (if q then (V n : Int) else 0) ∧ ok = q))
    (Hno : Hid (∀ k, k < n → ¬ (48 ≤ z k ∧ z k ≤ 57) → r = 0 ∧ ok = false))
    (Hbig : Hid (∀ k, k ≤ n → 9223372036854775807 < V k → r = 0 ∧ ok = false)) :
    Calls Try.prog 6 #[.slice (some ⟨b, off, none⟩) n cap] w fun e w' => e = .returned (.tuple #[.int .i64 r, .bool ok]) ∧ Below w.heap.size w w' := by
  have hm' := hm
  unfold maxLen at hm
  have hc0 := hr 0 (by omega)
  rw [Nat.add_zero] at hc0
  go_enter Try.func6, Try.ntmps6
  go_wp2
  go_loop [6, 7] (fun t i => ∃ k : Nat, k ≤ n ∧ i = .int .i64 k ∧ t = .int .i64 (-(V k : Int)) ∧ V k ≤ 9223372036854775808 ∧ ∀ j, j < k → 48 ≤ z j ∧ z j ≤ 57) (fun _ i => n - (intOf i).toNat)
  case atStart => exact ⟨0, Nat.zero_le _, rfl, by rw [HV0.out]; rfl, by rw [HV0.out]; omega, fun j hj => absurd hj (by omega)⟩
  case round =>
    obtain ⟨k, hk, rfl, rfl, hb, hall⟩ := hrel
    have HA : Hid (∀ j, j < k → 48 ≤ z j ∧ z j ≤ 57) := hall
    clear hall
    by_cases hlt : k < n
    · have hck := hr k hlt
      have hzk := hz k
      by_cases hd : 48 ≤ z k ∧ z k ≤ 57
      · obtain ⟨hd1, hd2⟩ := hd
        by_cases ho : V k ≤ 922337203685477580
        · by_cases hs : -(V k : Int) * 10 < -9223372036854775808 + (z k - 48)
          · have HS := hs
            go_wp2
            go_ret2
            exact ⟨ret_two (Hbig.out (k + 1) (by omega) (by rw [HV.out k]; omega)), Below.refl _ _⟩
          · have HS : Hid (¬ -(V k : Int) * 10 < -9223372036854775808 + (z k - 48)) := hs
            go_wp2
            refine ⟨⟨_, _, _, _, ⟨k + 1, by omega, ?_, ?_, ?_, ?_⟩, rfl, rfl, rfl, rfl⟩, ?_⟩
            · go_num
            · exact int_eq (by rw [HV.out k]; omega)
            · have := HS.out
              rw [HV.out k]; omega
            · intro j hj
              rcases Nat.lt_succ_iff_lt_or_eq.1 hj with h | h
              · exact HA.out j h
              · subst h; exact ⟨hd1, hd2⟩
            · simp [intOf]; omega
        · go_wp2
          go_ret2
          exact ⟨ret_two (Hbig.out (k + 1) (by omega) (by rw [HV.out k]; omega)), Below.refl _ _⟩
      · by_cases hd1 : z k < 48
        · go_wp2
          go_ret2
          exact ⟨ret_two (Hno.out k hlt hd), Below.refl _ _⟩
        · have hd2 : 57 < z k := by omega
          have HD : Hid (¬ (48 ≤ z k ∧ z k ≤ 57)) := hd
          clear hd
          go_wp2
          go_ret2
          exact ⟨ret_two (Hno.out k hlt HD.out), Below.refl _ _⟩
    · by_cases hv : V k ≤ 9223372036854775807
      · have hne : (-(V k : Int) == -9223372036854775808) = false := by rw [beq_eq_false_iff_ne]; omega
        have hkn : k = n := by omega
        have HK : Hid (k = n) := hkn
        clear hkn
        have hy := fun q hq => Hyes.out (fun j hj => HA.out j (by have := HK.out; omega)) (by rw [← HK.out]; exact hv) q hq
        rw [← HK.out] at hy
        have hlen := text_len (V k) (by omega) (by omega)
        cases hq : decide (text (V k : Int) = l)
        · have HY := hy _ hq
          have HY2 : Hid (r = 0 ∧ ok = false) := HY
          have HQ : Hid (decide (text (V k : Int) = l) = false) := hq
          clear hy HY hq
          go_wp2_with fail
          refine (text_any _ _ (by omega) (by omega)).mono ?_
          rintro e w1 ⟨b1, rfl, hb1, hrow1, hbel1⟩
          go_wp2_with fail
          refine (equal_row b1 0 _ b off cap _ n _ l _ false rfl Hn.out hrow1 (hrow.below hbel1) (by unfold maxLen; omega) HQ.out).mono ?_
          rintro e w2 ⟨rfl, hbel2⟩
          go_wp2_with fail
          go_ret2
          exact ⟨ret_two HY2.out, hbel1.trans (hbel2.mono hbel1.size)⟩
        · have HY := hy _ hq
          have HY2 : Hid (r = (V k : Int) ∧ ok = true) := HY
          have HQ : Hid (decide (text (V k : Int) = l) = true) := hq
          clear hy HY hq
          go_wp2_with fail
          refine (text_any _ _ (by omega) (by omega)).mono ?_
          rintro e w1 ⟨b1, rfl, hb1, hrow1, hbel1⟩
          go_wp2_with fail
          refine (equal_row b1 0 _ b off cap _ n _ l _ true rfl Hn.out hrow1 (hrow.below hbel1) (by unfold maxLen; omega) HQ.out).mono ?_
          rintro e w2 ⟨rfl, hbel2⟩
          go_wp2_with fail
          go_ret2
          exact ⟨ret_two HY2.out, hbel1.trans (hbel2.mono hbel1.size)⟩
      · have hne : (-(V k : Int) == -9223372036854775808) = true := by rw [beq_iff_eq]; omega
        go_wp2_with fail
        go_ret2
        exact ⟨ret_two (Hbig.out k hk (by omega)), Below.refl _ _⟩

set_option maxHeartbeats 400000 in
theorem model_neg (b off cap n : Nat) (l : List Int) (y : Int) (z : Nat → Int) (V : Nat → Nat) (w : World) (r : Int) (ok : Bool)
    (hrow : Row w b off l) (Hn : Hid (n + 1 = l.length)) (hy : w.cell? ⟨b, off, none⟩ = some (.int .u8 y)) (h45 : (y == 45) = true)
    (hr : ∀ i, i < n → w.cell? ⟨b, off + (i + 1), none⟩ = some (.int .u8 (z i))) (hz : ∀ i, 0 ≤ z i ∧ z i ≤ 255)
    (hn1 : 1 ≤ n) (hcap : n + 1 ≤ cap) (hm : cap ≤ maxLen)
    (HV0 : Hid (V 0 = 0)) (HV : Hid (∀ k, V (k + 1) = V k * 10 + (z k - 48).toNat))
    (Hyes : Hid ((∀ j, j < n → 48 ≤ z j ∧ z j ≤ 57) → V n ≤ 9223372036854775808 → ∀ q : Bool, decide (text (-(V n : Int)) = l) = q → r = (if q then -(V n : Int) else 0) ∧ ok = q))
    (Hno : Hid (∀ k, k < n → ¬ (48 ≤ z k ∧ z k ≤ 57) → r = 0 ∧ ok = false))
    (Hbig : Hid (∀ k, k ≤ n → 9223372036854775808 < V k → r = 0 ∧ ok = false)) :
    Calls Try.prog 6 #[.slice (some ⟨b, off, none⟩) (n + 1) cap] w fun e w' => e = .returned (.tuple #[.int .i64 r, .bool ok]) ∧ Below w.heap.size w w' := by
  have hm' := hm
  unfold maxLen at hm
  go_enter Try.func6, Try.ntmps6
  go_wp2
  go_loop [6, 7] (fun t i => ∃ k : Nat, k ≤ n ∧ i = .int .i64 ((k : Int) + 1) ∧ t = .int .i64 (-(V k : Int)) ∧ V k ≤ 9223372036854775808 ∧ ∀ j, j < k → 48 ≤ z j ∧ z j ≤ 57) (fun _ i => n + 1 - (intOf i).toNat)
  case atStart => exact ⟨0, Nat.zero_le _, rfl, by rw [HV0.out]; rfl, by rw [HV0.out]; omega, fun j hj => absurd hj (by omega)⟩
  case round =>
    obtain ⟨k, hk, rfl, rfl, hb, hall⟩ := hrel
    have HA : Hid (∀ j, j < k → 48 ≤ z j ∧ z j ≤ 57) := hall
    clear hall
    by_cases hlt : k < n
    · have hck := hr k hlt
      have hzk := hz k
      by_cases hd : 48 ≤ z k ∧ z k ≤ 57
      · obtain ⟨hd1, hd2⟩ := hd
        by_cases ho : V k ≤ 922337203685477580
        · by_cases hs : -(V k : Int) * 10 < -9223372036854775808 + (z k - 48)
          · have HS := hs
            go_wp2
            go_ret2
            exact ⟨ret_two (Hbig.out (k + 1) (by omega) (by rw [HV.out k]; omega)), Below.refl _ _⟩
          · have HS : Hid (¬ -(V k : Int) * 10 < -9223372036854775808 + (z k - 48)) := hs
            go_wp2
            go_round
            case rel =>
              refine ⟨k + 1, by omega, by go_num, int_eq (by rw [HV.out k]; omega), ?_, ?_⟩
              · have := HS.out
                rw [HV.out k]; omega
              · intro j hj
                rcases Nat.lt_succ_iff_lt_or_eq.1 hj with h | h
                · exact HA.out j h
                · subst h; exact ⟨hd1, hd2⟩
            case measure => simp [intOf]; omega
        · go_wp2
          go_ret2
          exact ⟨ret_two (Hbig.out (k + 1) (by omega) (by rw [HV.out k]; omega)), Below.refl _ _⟩
      · by_cases hd1 : z k < 48
        · go_wp2
          go_ret2
          exact ⟨ret_two (Hno.out k hlt hd), Below.refl _ _⟩
        · have hd2 : 57 < z k := by omega
          have HD : Hid (¬ (48 ≤ z k ∧ z k ≤ 57)) := hd
          clear hd
          go_wp2
          go_ret2
          exact ⟨ret_two (Hno.out k hlt HD.out), Below.refl _ _⟩
    · have hkn : k = n := by omega
      have HK : Hid (k = n) := hkn
      clear hkn
      have hy := fun q hq => Hyes.out (fun j hj => HA.out j (by have := HK.out; omega)) (by rw [← HK.out]; exact hb) q hq
      rw [← HK.out] at hy
      have hlen := text_len (-(V k : Int)) (by omega) (by omega)
      cases hq : decide (text (-(V k : Int)) = l)
      · have HY := hy _ hq
        have HY2 : Hid (r = 0 ∧ ok = false) := HY
        have HQ : Hid (decide (text (-(V k : Int)) = l) = false) := hq
        clear hy HY hq
        go_wp2_with fail
        refine (text_any _ _ (by omega) (by omega)).mono ?_
        rintro e w1 ⟨b1, rfl, hb1, hrow1, hbel1⟩
        go_wp2_with fail
        refine (equal_row b1 0 _ b off cap _ (n + 1) _ l _ false rfl Hn.out hrow1 (hrow.below hbel1) (by unfold maxLen; omega) HQ.out).mono ?_
        rintro e w2 ⟨rfl, hbel2⟩
        go_wp2_with fail
        go_ret2
        exact ⟨ret_two HY2.out, hbel1.trans (hbel2.mono hbel1.size)⟩
      · have HY := hy _ hq
        have HY2 : Hid (r = -(V k : Int) ∧ ok = true) := HY
        have HQ : Hid (decide (text (-(V k : Int)) = l) = true) := hq
        clear hy HY hq
        go_wp2_with fail
        refine (text_any _ _ (by omega) (by omega)).mono ?_
        rintro e w1 ⟨b1, rfl, hb1, hrow1, hbel1⟩
        go_wp2_with fail
        refine (equal_row b1 0 _ b off cap _ (n + 1) _ l _ true rfl Hn.out hrow1 (hrow.below hbel1) (by unfold maxLen; omega) HQ.out).mono ?_
        rintro e w2 ⟨rfl, hbel2⟩
        go_wp2_with fail
        go_ret2
        exact ⟨ret_two HY2.out, hbel1.trans (hbel2.mono hbel1.size)⟩

theorem vz_mono (z : Nat → Int) : ∀ d k, vz z k ≤ vz z (k + d) := by
  intro d
  induction d with
  | zero => intro k; exact Nat.le_refl _
  | succ d ih =>
    intro k
    have h := ih k
    show vz z k ≤ vz z (k + d) * 10 + (z (k + d) - 48).toNat
    omega

theorem val_ge_vz (l : List Int) (k : Nat) (hk : k ≤ l.length) : vz (fun i => l.getD i 0) k ≤ val l := by
  have := vz_mono (fun i => l.getD i 0) (l.length - k) k
  rw [show k + (l.length - k) = l.length by omega, vz_all] at this
  exact this

/-- zzModel on a row of bytes. -/
theorem model_row (b off cap n : Nat) (l : List Int) (w : World) (hn : n = l.length) (hrow : Row w b off l) (hcap : n ≤ cap) (hm : cap ≤ maxLen) :
    Calls Try.prog 6 #[.slice (some ⟨b, off, none⟩) n cap] w fun e w' => e = .returned (.tuple #[.int .i64 ((model l).getD 0), .bool (model l).isSome]) ∧ Below w.heap.size w w' := by
  subst hn
  cases l with
  | nil =>
    have : model [] = none := by rw [model, if_neg (by simp), modelP, if_neg (fun h => h.1 rfl)]
    rw [this]
    exact model_nil _ cap w
  | cons c l =>
    by_cases h : c = 45
    · subst h
      have hmm : model (45 :: l) = modelN l := by rw [model, if_pos (show ((45 : Int) :: l).head? = some 45 from rfl)]; rfl
      rw [hmm]
      have hy : w.cell? ⟨b, off, none⟩ = some (.int .u8 45) := by have := hrow.1 0 (by simp); rwa [Nat.add_zero] at this
      by_cases hne : l = []
      · have : modelN l = none := by rw [modelN, if_neg (fun h => h.1 hne)]
        rw [this]
        subst hne
        exact model_lone b off cap 45 w hy rfl hcap hm
      · have hpos : 0 < l.length := List.length_pos_iff.2 hne
        refine model_neg b off cap l.length (45 :: l) 45 (fun i => l.getD i 0) (vz (fun i => l.getD i 0)) w _ _ hrow rfl hy rfl (fun i hi => hrow.1 (i + 1) (by simp; omega)) (getD_bd (fun c hc => hrow.2 c (List.mem_cons_of_mem _ hc))) hpos hcap hm rfl (fun _ => rfl) ?_ ?_ ?_
        · intro h1 h2 q hq
          rw [vz_all] at h2 hq ⊢
          cases q
          · rw [modelN, if_neg (fun h => by have := of_decide_eq_false hq; exact this h.2.2.2)]
            exact ⟨rfl, rfl⟩
          · rw [modelN, if_pos ⟨hne, (all_iff l).2 h1, h2, of_decide_eq_true hq⟩]
            exact ⟨rfl, rfl⟩
        · intro k hk h1
          rw [modelN, if_neg (fun h => not_dig_all l k hk h1 h.2.1)]
          exact ⟨rfl, rfl⟩
        · intro k hk h1
          have := val_ge_vz l k hk
          rw [modelN, if_neg (fun h => by have := h.2.2.1; omega)]
          exact ⟨rfl, rfl⟩
    · have hmm : model (c :: l) = modelP (c :: l) := by rw [model, if_neg (by simpa using h)]
      rw [hmm]
      refine model_pos b off cap (c :: l).length (c :: l) (fun i => (c :: l).getD i 0) (vz (fun i => (c :: l).getD i 0)) w _ _ hrow rfl hrow.1 (getD_bd hrow.2) (by simp) (by simpa using h) hcap hm rfl (fun _ => rfl) ?_ ?_ ?_
      · intro h1 h2 q hq
        rw [vz_all] at h2 hq ⊢
        cases q
        · rw [modelP, if_neg (fun h => by have := of_decide_eq_false hq; exact this h.2.2.2)]
          exact ⟨rfl, rfl⟩
        · rw [modelP, if_pos ⟨by simp, (all_iff _).2 h1, h2, of_decide_eq_true hq⟩]
          exact ⟨rfl, rfl⟩
      · intro k hk h1
        rw [modelP, if_neg (fun h => not_dig_all _ k hk h1 h.2.1)]
        exact ⟨rfl, rfl⟩
      · intro k hk h1
        have := val_ge_vz (c :: l) k hk
        rw [modelP, if_neg (fun h => by have := h.2.2.1; omega)]
        exact ⟨rfl, rfl⟩

end Go.Proofs.Qxb6630744a

/-
  THE WALK OF FnAddAgreesWithNumber.
-/
import Derived.Test.Qxb6630777aFirstWalk
namespace Go.Proofs.Qxb6630777a
open Go.RowKit
set_option linter.unusedSimpArgs false
set_option linter.unusedVariables false

set_option maxHeartbeats 400000 in
theorem bytes10 (a : Option Addr) (b off n cap : Nat) (x : Nat → ByteArray) (q : ByteArray) (w : World) (hn : n ≤ maxLen) (hq : q.size ≤ maxLen) (ha : 1 ≤ n → a = some ⟨b, off, none⟩) (hx : ∀ i, i < n → w.cell? ⟨b, off + i, none⟩ = some (.string (x i))) :
    Calls Try.prog 10 #[.slice a n cap, .string q] w fun e w' => Says e w w' := by
  unfold maxLen at hn hq
  go_enter Try.func10, Try.ntmps10
  go_wp2
  · go_ret
    exact says _ _
  · go_loop [5, 6] (fun t i => ∃ (k : Nat) (z : Int), k ≤ n ∧ i = .int .i64 k ∧ t = .int .i64 z) (fun _ i => n - (intOf i).toNat)
    case atStart => exact ⟨0, _, Nat.zero_le _, rfl, rfl⟩
    case round =>
      obtain ⟨k, z, hk, rfl, rfl⟩ := hrel
      by_cases hlt : k < n
      · have hck := hx k hlt
        obtain rfl := ha (by omega)
        clear ha
        go_wp2
        all_goals
          first
            | (go_ret; exact says _ _)
            | (go_round
               case rel => exact ⟨k + 1, _, by omega, by go_num, rfl⟩
               case measure => simp [intOf]; omega)
      · clear ha
        go_wp2
        all_goals
          go_ret
          exact says _ _

/-- While the names are added. -/
def AInv (w : World) (X : List ByteArray) (k : Nat) (wr : World) : Prop :=
  IxAt wr (w.heap.size + 1) w.heap.size (ded (X.take k)) ∧ Below w.heap.size w wr ∧ w.heap.size + 1 ≤ wr.heap.size

theorem ainv_drew {w : World} {X : List ByteArray} {k : Nat} {wr : World} (h : AInv w X k wr) (q : Nat) : AInv w X k (wr.drewN q) :=
  ⟨h.1, below_drewN h.2.1 q, h.2.2⟩
theorem ainv_start (w : World) (X : List ByteArray) : AInv w X 0 (w.alloc (.cells #[.slice none 0 0, .map none] 35)) :=
  ⟨ix_new w _ (by omega), (Below.refl _ _).alloc (Nat.le_refl _) _, by simp⟩
theorem kept_below {w wr w3 : World} (h : Below w.heap.size w wr) (hkept : Kept (w.heap.size + 1) w.heap.size wr w3) : Below w.heap.size w w3 :=
  h.trans ⟨hkept.os, hkept.tape, hkept.output, hkept.size, fun i hi => hkept.block i (by omega) (by omega)⟩
theorem ainv_add {w wr w3 : World} {X : List ByteArray} {k : Nat} (h : AInv w X k wr) (hk : k < X.length) (hix : IxAt w3 (w.heap.size + 1) w.heap.size (addN (ded (X.take k)) (X.getD k ByteArray.empty)))
    (hkept : Kept (w.heap.size + 1) w.heap.size wr w3) : AInv w X (k + 1) w3 := by
  refine ⟨?_, kept_below h.2.1 hkept, Nat.le_trans h.2.2 hkept.size⟩
  rw [ded_take X k hk]
  exact hix

theorem ix_any {w : World} {B p : Nat} {names : List ByteArray} (h : IxAt w B p names) : ∃ a cap m, w.heap[p]? = some (.cells #[.slice a names.length cap, m] 35 (0, 0)) := by
  obtain ⟨_, _, _, v, m, hb, hrow, _⟩ := h
  rcases hrow.2 with ⟨rfl, h0⟩ | ⟨g, cap, cur, rfl, hg, hh, _, _, _, hx⟩
  · exact ⟨none, 0, m, by rw [h0]; exact hb⟩
  · exact ⟨_, cap, m, hb⟩

theorem zznumber_is (B p : Nat) (names : List ByteArray) (s : ByteArray) (R : Int) (ok : Bool) (w : World) (h : IxAt w B p names) (hR : numR names s = R ∧ memB names s = ok) (hl : names.length ≤ 1048575) (hs : s.size ≤ maxLen) :
    Calls Try.prog 11 #[.pointer (some ⟨p, 0, none⟩), .string s] w fun e w' => e = .returned (.tuple #[.int .i64 R, .bool ok]) ∧ w' = w := by
  obtain ⟨rfl, rfl⟩ := hR; exact zznumber B p names s w h hl hs

set_option maxRecDepth 100000 in
set_option maxHeartbeats 1000000 in
theorem agree_row (a : Option Addr) (b off n cap : Nat) (X : List ByteArray) (x : Nat → ByteArray) (F : Nat → Nat) (V : Nat → Int) (s : ByteArray) (w : World) (hn : n ≤ maxLen) (hs : s.size ≤ maxLen) (ha : 1 ≤ n → a = some ⟨b, off, none⟩)
    (hx : ∀ i, i < n → w.cell? ⟨b, off + i, none⟩ = some (.string (x i))) (HX : Hid (n = X.length)) (HXx : Hid (∀ i, x i = X.getD i ByteArray.empty)) (hxs : ∀ i, (x i).size ≤ maxLen) (hbw : 1 ≤ n → b < w.heap.size)
    (HF : Hid (∀ k, F k = (ded (X.take k)).length)) (hF : ∀ k, F k ≤ n) (HV0 : Hid (V 0 = -1))
    (HFn : Hid (∀ k, k < n → (∀ i, i < k → x i ≠ x k) → F (k + 1) = F k + 1)) (HFo : Hid (∀ k i, k < n → i < k → x i = x k → F (k + 1) = F k ∧ V (k + 1) = V k))
    (HVn : Hid (∀ k, k < n → (∀ i, i < k → x i ≠ x k) → x k = s → V (k + 1) = (F k : Int))) (HVo : Hid (∀ k, k < n → x k ≠ s → V (k + 1) = V k))
    (HVin : Hid (s ∈ X → V n = (idx (ded X) s : Int))) (HVout : Hid (s ∉ X → V n = -1)) :
    Calls Try.prog 4 #[.slice a n cap, .string s] w fun e w' => e = .returned (.bool true) ∧ Below w.heap.size w w' := by
  have hcall := bytes10 a b off n cap x s w hn hs ha hx
  have hs' := hs
  unfold maxLen at hn hs
  by_cases hbig : 4096 < n
  · go_enter Try.func4, Try.ntmps4
    go_wp2_with fail
    refine hcall.mono ?_
    rintro e w' ⟨q, rfl, rfl⟩
    cases q
    · go_wp2
      go_ret
      exact ⟨rfl, Below.refl _ _⟩
    · go_wp2
      go_ret
      exact ⟨rfl, Below.refl _ _⟩
  by_cases hbig2 : 65536 < s.size
  · go_enter Try.func4, Try.ntmps4
    go_wp2_with fail
    refine hcall.mono ?_
    rintro e w' ⟨q, rfl, rfl⟩
    cases q
    · go_wp2
      go_ret
      exact ⟨rfl, Below.refl _ _⟩
    · go_wp2
      go_ret
      exact ⟨rfl, Below.refl _ _⟩
  go_enter Try.func4, Try.ntmps4
  go_wp2_with fail
  refine hcall.mono ?_
  rintro e w' ⟨q, rfl, rfl⟩
  clear hcall
  cases q
  · go_wp2
    go_ret
    exact ⟨rfl, Below.refl _ _⟩
  go_wp2_with fail
  go_loop [5, 6] (fun t i => ∃ (k : Nat) (z : Int), k ≤ n ∧ i = .int .i64 k ∧ t = .int .i64 z) (fun _ i => n - (intOf i).toNat)
  case atStart => exact ⟨0, _, Nat.zero_le _, rfl, rfl⟩
  case round =>
    obtain ⟨k, z, hk, rfl, rfl⟩ := hrel
    by_cases hlt : k < n
    · have hck := hx k hlt
      obtain rfl := ha (by omega)
      clear ha
      go_wp2
      · go_ret
        exact ⟨rfl, Below.refl _ _⟩
      · go_round
        case rel => exact ⟨k + 1, _, by omega, by go_num, rfl⟩
        case measure => simp [intOf]; omega
    · have HA : Hid (1 ≤ n → a = some ⟨b, off, none⟩) := ha
      have HBW : Hid (1 ≤ n → b < w'.heap.size) := hbw
      clear ha hbw
      go_wp2_with fail
      refine (zznew _).mono ?_
      rintro e w1 ⟨rfl, rfl⟩
      go_wp2_with fail
      have HS : Hid (AInv w' X 0 (w'.alloc (.cells #[.slice none 0 0, .map none] 35))) := ainv_start w' X
      clear hk hlt
      go_loopw [8, 9, 10] (fun f g i wr => ∃ k2 : Nat, k2 ≤ n ∧ i = .int .i64 k2 ∧ f = .int .i64 (F k2 : Int) ∧ g = .int .i64 (V k2) ∧ AInv w' X k2 wr) (fun _ _ i _ => n - (intOf i).toNat)
      case atStart => exact ⟨0, Nat.zero_le _, rfl, int_eq (by rw [HF.out 0]; rfl), int_eq HV0.out.symm, HS.out⟩
      case round =>
        obtain ⟨k2, hk2, rfl, rfl, rfl, hL⟩ := hrel
        by_cases hlt2 : k2 < n
        · obtain rfl := HA.out (by omega)
          have hbw := HBW.out (by omega)
          have q1 := (hL.2.1.cell (p := ⟨b, off + k2, none⟩) hbw).trans (hx k2 hlt2)
          have hFk := hF k2
          go_wp2_with fail
          refine (zzadd (w'.heap.size + 1) w'.heap.size (ded (X.take k2)) (x k2) _ hL.1 ?_ (hxs k2) hL.2.2).mono ?_
          · have := HF.out k2; omega
          rintro e w3 ⟨rfl, hix3, hkept3⟩
          have hL4 := ainv_add hL (by have := HX.out; omega) (by rw [← HXx.out k2]; exact hix3) hkept3
          have HL4 : Hid (AInv w' X (k2 + 1) w3) := hL4
          clear hL hL4 hix3 hkept3 q1
          go_wp2_with fail
          go_loopw [11, 12] (fun f i wi => ∃ j : Nat, f = .bool true ∧ i = .int .i64 j ∧ j ≤ k2 ∧ (∀ i, i < j → x i ≠ x k2) ∧ AInv w' X (k2 + 1) wi) (fun _ i _ => k2 - (intOf i).toNat)
          case atStart => exact ⟨0, rfl, rfl, Nat.zero_le _, fun i hi => absurd hi (by omega), HL4.out⟩
          case round =>
            obtain ⟨j, rfl, rfl, hj, hne, hL⟩ := hrel
            have HNE : Hid (∀ i, i < j → x i ≠ x k2) := hne
            clear hne HL4
            have q1 := (hL.2.1.cell (p := ⟨b, off + k2, none⟩) hbw).trans (hx k2 hlt2)
            by_cases hlt3 : j < k2
            · have q2 := (hL.2.1.cell (p := ⟨b, off + j, none⟩) hbw).trans (hx j (by omega))
              by_cases e : x j = x k2
              · have HE : Hid (x j = x k2) := e
                have e' := toList_same e
                have HL : Hid (AInv w' X (k2 + 1) wr) := hL
                clear e hL
                go_wp2
                go_quiet (fail)
                go_wp2
                go_roundw
                case rel =>
                  obtain ⟨o1, o2⟩ := HFo.out k2 j hlt2 hlt3 HE.out
                  exact ⟨k2 + 1, by omega, by go_num, int_eq (by rw [o1]), int_eq o2.symm, ainv_drew HL.out nq⟩
                case measure => simp [intOf]; omega
              · have HE : Hid (x j ≠ x k2) := e
                have e' := toList_ne e
                have HL : Hid (AInv w' X (k2 + 1) wr) := hL
                clear e hL
                go_wp2
                go_quiet (fail)
                go_wp2
                go_roundw
                case rel => exact ⟨j + 1, rfl, by go_num, by omega, fun i hi => by rcases Nat.lt_succ_iff_lt_or_eq.1 hi with h | h; exact HNE.out i h; subst h; exact HE.out, ainv_drew HL.out nq⟩
                case measure => simp [intOf]; omega
            · have HL : Hid (AInv w' X (k2 + 1) wr) := hL
              have HFF : Hid (F (k2 + 1) = F k2 + 1) := HFn.out k2 hlt2 (fun i hi => HNE.out i (by omega))
              clear hL
              by_cases es : x k2 = s
              · have e' := toList_same es
                have HVV : Hid (V (k2 + 1) = (F k2 : Int)) := HVn.out k2 hlt2 (fun i hi => HNE.out i (by omega)) es
                clear es
                go_wp2
                go_roundw
                case rel => exact ⟨k2 + 1, by omega, by go_num, int_eq (by rw [HFF.out]; omega), int_eq HVV.out.symm, HL.out⟩
                case measure => simp [intOf]; omega
              · have e' := toList_ne es
                have HVV : Hid (V (k2 + 1) = V k2) := HVo.out k2 hlt2 es
                clear es
                go_wp2
                go_roundw
                case rel => exact ⟨k2 + 1, by omega, by go_num, int_eq (by rw [HFF.out]; omega), int_eq HVV.out.symm, HL.out⟩
                case measure => simp [intOf]; omega
        · obtain rfl : k2 = n := by omega
          have hFk := hF k2
          have hFn : F k2 = (ded X).length := by rw [HF.out k2, List.take_of_length_le (by have := HX.out; omega)]
          have hix : IxAt wr (w'.heap.size + 1) w'.heap.size (ded X) := by
            have h := hL.1
            rwa [List.take_of_length_le (by have := HX.out; omega)] at h
          have hl : (ded X).length ≤ 1048575 := by omega
          by_cases hin : s ∈ X
          · have hmem : s ∈ ded X := mem_ded.2 hin
            obtain ⟨R, hR⟩ : ∃ R, R = idx (ded X) s := ⟨_, rfl⟩
            have hVR : V k2 = (R : Int) := by rw [hR]; exact HVin.out hin
            have hnum : numR (ded X) s = (R : Int) ∧ memB (ded X) s = true := ⟨by unfold numR; rw [if_pos (memB_iff.2 hmem), hR], memB_iff.2 hmem⟩
            have hadd : idx (addN (ded X) s) s = R := by rw [addN_yes hmem, hR]
            have HN : Hid (numR (ded X) s = (R : Int) ∧ memB (ded X) s = true) := hnum
            have HAD : Hid (idx (addN (ded X) s) s = R) := hadd
            have HFN : Hid (F k2 = (ded X).length) := hFn
            have HM : Hid (s ∈ ded X) := hmem
            have HL : Hid (AInv w' X k2 wr) := hL
            have HIX : Hid (IxAt wr (w'.heap.size + 1) w'.heap.size (ded X)) := hix
            clear hnum hadd hFn hmem hin hR hL hix
            go_wp2_with fail
            refine (zznumber_is _ _ (ded X) s (R : Int) true _ HIX.out HN.out hl hs').mono ?_
            rintro e w4 ⟨rfl, rfl⟩
            go_wp2_with fail
            refine (zzadd_is _ _ (ded X) s R _ HIX.out HAD.out hl hs' HL.out.2.2).mono ?_
            rintro e w5 ⟨rfl, hix5, hkept5⟩
            rw [addN_yes HM.out] at hix5
            obtain ⟨aa, cc, mm, hb5⟩ := ix_any hix5
            rw [← HFN.out] at hb5
            have HB5 : Hid (w5.heap[w'.heap.size]? = some (.cells #[.slice aa (F k2) cc, mm] 35 (0, 0))) := hb5
            have HBe : Hid (Below w'.heap.size w' w5) := kept_below HL.out.2.1 hkept5
            clear hix5 hkept5 hb5
            go_wp2_with fail
            refine (zznames _ _ _ _ _ _ HB5.out).mono ?_
            rintro e w6 ⟨rfl, rfl⟩
            go_wp2_with fail
            go_ret
            exact ⟨rfl, HBe.out⟩
          · have hmem : s ∉ ded X := fun h => hin (mem_ded.1 h)
            have hVR : V k2 = -1 := HVout.out hin
            have hnum : numR (ded X) s = 0 ∧ memB (ded X) s = false := ⟨by unfold numR; rw [if_neg (fun e => hmem (memB_iff.1 e))], memB_no.2 hmem⟩
            have hadd : idx (addN (ded X) s) s = F k2 := by rw [idx_new hmem, hFn]
            have hnum2 : numR (addN (ded X) s) s = (F k2 : Int) ∧ memB (addN (ded X) s) s = true :=
              ⟨by unfold numR; rw [if_pos (memB_iff.2 (mem_addN.2 (.inr rfl))), hadd], memB_iff.2 (mem_addN.2 (.inr rfl))⟩
            have hlen2 : (addN (ded X) s).length = F k2 + 1 := by rw [addN_no hmem, hFn]; simp
            have HN : Hid (numR (ded X) s = 0 ∧ memB (ded X) s = false) := hnum
            have HN2 : Hid (numR (addN (ded X) s) s = (F k2 : Int) ∧ memB (addN (ded X) s) s = true) := hnum2
            have HAD : Hid (idx (addN (ded X) s) s = F k2) := hadd
            have HLL : Hid ((addN (ded X) s).length = F k2 + 1) := hlen2
            have HL : Hid (AInv w' X k2 wr) := hL
            have HIX : Hid (IxAt wr (w'.heap.size + 1) w'.heap.size (ded X)) := hix
            clear hnum hnum2 hadd hFn hmem hin hL hix hlen2
            go_wp2_with fail
            refine (zznumber_is _ _ (ded X) s 0 false _ HIX.out HN.out hl hs').mono ?_
            rintro e w4 ⟨rfl, rfl⟩
            go_wp2_with fail
            refine (zzadd_is _ _ (ded X) s (F k2) _ HIX.out HAD.out hl hs' HL.out.2.2).mono ?_
            rintro e w5 ⟨rfl, hix5, hkept5⟩
            obtain ⟨aa, cc, mm, hb5⟩ := ix_any hix5
            rw [HLL.out] at hb5
            have HB5 : Hid (w5.heap[w'.heap.size]? = some (.cells #[.slice aa (F k2 + 1) cc, mm] 35 (0, 0))) := hb5
            have HBe : Hid (Below w'.heap.size w' w5) := kept_below HL.out.2.1 hkept5
            have HIX5 : Hid (IxAt w5 (w'.heap.size + 1) w'.heap.size (addN (ded X) s)) := hix5
            clear hix5 hkept5 hb5
            go_wp2_with fail
            refine (zznames _ _ _ _ _ _ HB5.out).mono ?_
            rintro e w6 ⟨rfl, rfl⟩
            go_wp2_with fail
            refine (zznumber_is _ _ (addN (ded X) s) s (F k2 : Int) true _ HIX5.out HN2.out (by have := HLL.out; omega) hs').mono ?_
            rintro e w7 ⟨rfl, rfl⟩
            go_wp2_with fail
            go_ret
            exact ⟨rfl, HBe.out⟩

end Go.Proofs.Qxb6630777a

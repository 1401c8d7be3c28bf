/-
  THE WALK OF zzEqual: are two rows of bytes the same?
-/
import Derived.Test.Qxb6630744aFlipWalk
import Derived.Deep.QuietTactic
import Derived.BigQuiet
namespace Go.Proofs.Qxb6630744a
open Go.RowKit
set_option linter.unusedSimpArgs false
set_option linter.unusedVariables false

set_option maxHeartbeats 400000 in
theorem equal_len (a1 a2 : Addr) (n1 c1 n2 c2 : Nat) (w : World) (h : ((n1 : Int) != (n2 : Int)) = true) :
    Calls Try.prog 9 #[.slice (some a1) n1 c1, .slice (some a2) n2 c2] w fun e w' => e = .returned (.bool false) ∧ Below w.heap.size w w' := by
  go_enter Try.func9, Try.ntmps9
  go_wp2
  go_ret
  exact ⟨rfl, Below.refl _ _⟩

set_option maxHeartbeats 400000 in
theorem equal_core (b1 o1 c1 b2 o2 c2 n : Nat) (x y : Nat → Int) (w : World) (ok : Bool) (hn : n ≤ maxLen)
    (h1 : ∀ i, i < n → w.cell? ⟨b1, o1 + i, none⟩ = some (.int .u8 (x i))) (h2 : ∀ i, i < n → w.cell? ⟨b2, o2 + i, none⟩ = some (.int .u8 (y i)))
    (Hyes : Hid ((∀ i, i < n → x i = y i) → ok = true)) (Hno : Hid (∀ i, i < n → ¬ x i = y i → ok = false)) :
    Calls Try.prog 9 #[.slice (some ⟨b1, o1, none⟩) n c1, .slice (some ⟨b2, o2, none⟩) n c2] w fun e w' => e = .returned (.bool ok) ∧ Below w.heap.size w w' := by
  unfold maxLen at hn
  go_enter Try.func9, Try.ntmps9
  go_wp2
  go_loopw [5] (fun i wr => ∃ k : Nat, i = .int .i64 (k : Int) ∧ k ≤ n ∧ (∀ j, j < k → x j = y j) ∧ Below w.heap.size w wr ∧ ∀ a, wr.cell? a = w.cell? a) (fun i _ => n - (intOf i).toNat)
  case atStart => exact ⟨0, rfl, Nat.zero_le _, fun j hj => absurd hj (by omega), Below.refl _ _, fun _ => rfl⟩
  case round =>
    obtain ⟨k, rfl, hk, hall, hbel, hcells⟩ := hrel
    have HA : Hid (∀ j, j < k → x j = y j) := hall
    have HC : Hid (∀ a, wr.cell? a = w.cell? a) := hcells
    clear hall
    by_cases hlt : k < n
    · have q1 := (hcells ⟨b1, o1 + k, none⟩).trans (h1 k hlt)
      have q2 := (hcells ⟨b2, o2 + k, none⟩).trans (h2 k hlt)
      clear hcells
      by_cases e : x k = y k
      · have e' : (x k != y k) = false := by simp [e]
        have HE : Hid (x k = y k) := e
        clear e
        go_wp2
        go_quiet (fail)
        go_wp2
        go_roundw
        case rel => exact ⟨k + 1, by go_num, by omega, fun j hj => by rcases Nat.lt_succ_iff_lt_or_eq.1 hj with h | h; exact HA.out j h; subst h; exact HE.out, below_drewN hbel nq, fun a => HC.out a⟩
        case measure => simp [intOf]; omega
      · have e' : (x k != y k) = true := by simp [e]
        have HE : Hid (¬ x k = y k) := e
        clear e
        go_wp2
        go_quiet (fail)
        go_wp2
        go_ret
        exact ⟨ret_bool (Hno.out k hlt HE.out).symm, below_drewN hbel nq⟩
    · clear hcells
      go_wp2
      go_ret
      exact ⟨ret_bool (Hyes.out (fun i hi => HA.out i (by omega))).symm, hbel⟩

theorem list_eq_iff (l m : List Int) (h : l.length = m.length) : l = m ↔ ∀ i, i < l.length → l.getD i 0 = m.getD i 0 := by
  constructor
  · intro e i _; rw [e]
  · intro hh
    apply List.ext_getElem h
    intro i hi hj
    have := hh i hi
    simpa [List.getD, hi, hj] using this

/-- zzEqual, whole: under the answer's own name. -/
theorem equal_row (b1 o1 c1 b2 o2 c2 n1 n2 : Nat) (l m : List Int) (w : World) (ok : Bool) (hn1 : n1 = l.length) (hn2 : n2 = m.length) (h1 : Row w b1 o1 l) (h2 : Row w b2 o2 m) (hl : l.length ≤ maxLen)
    (hok : decide (l = m) = ok) :
    Calls Try.prog 9 #[.slice (some ⟨b1, o1, none⟩) n1 c1, .slice (some ⟨b2, o2, none⟩) n2 c2] w fun e w' => e = .returned (.bool ok) ∧ Below w.heap.size w w' := by
  subst hok hn1 hn2
  by_cases h : l.length = m.length
  · have e := list_eq_iff l m h
    rw [← h]
    refine equal_core b1 o1 c1 b2 o2 c2 l.length (fun i => l.getD i 0) (fun i => m.getD i 0) w _ hl h1.1 (fun i hi => h2.1 i (by omega)) ?_ ?_
    · intro hh
      exact decide_eq_true (e.2 hh)
    · intro i hi hne
      exact decide_eq_false (fun hlm => hne (e.1 hlm i hi))
  · rw [decide_eq_false (fun e => h (by rw [e]))]
    exact equal_len _ _ l.length c1 m.length c2 w (by simp; omega)

end Go.Proofs.Qxb6630744a

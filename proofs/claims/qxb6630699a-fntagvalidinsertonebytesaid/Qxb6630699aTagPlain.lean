/-
  THE PLAIN PART OF SEAT b6630699a: what a tag byte is, what a valid tag is, and the two laws with no Go in sight.
-/
import Derived.WalkKit
namespace Go.Proofs.Qxb6630699a

/-- May this byte stand in a tag? -/
def okc (c : Int) : Bool :=
  (decide (97 ≤ c) && decide (c ≤ 122)) || (decide (65 ≤ c) && decide (c ≤ 90)) || (decide (48 ≤ c) && decide (c ≤ 57)) ||
  decide (c = 45) || decide (c = 95) || decide (c = 46) || decide (c = 47) || decide (c = 58)

def okb (b : UInt8) : Bool := okc (b.toNat : Int)

theorem okc_iff (c : Int) : okc c = true ↔ ((97 ≤ c ∧ c ≤ 122) ∨ (65 ≤ c ∧ c ≤ 90) ∨ (48 ≤ c ∧ c ≤ 57) ∨ c = 45 ∨ c = 95 ∨ c = 46 ∨ c = 47 ∨ c = 58) := by
  simp only [okc, Bool.or_eq_true, Bool.and_eq_true, decide_eq_true_eq]
  omega

theorem okc_no (c : Int) : okc c = false ↔ ¬ ((97 ≤ c ∧ c ≤ 122) ∨ (65 ≤ c ∧ c ≤ 90) ∨ (48 ≤ c ∧ c ≤ 57) ∨ c = 45 ∨ c = 95 ∨ c = 46 ∨ c = 47 ∨ c = 58) := by
  rw [← okc_iff]; simp

/-- Is this text a valid tag? -/
def vldL (l : List UInt8) : Bool := !l.isEmpty && decide (l.length ≤ 64) && l.all okb
def vld (s : ByteArray) : Bool := vldL s.data.toList

theorem vldL_append (a b : List UInt8) (ha : a ≠ []) (hb : b ≠ []) : vldL (a ++ b) = (vldL a && vldL b && decide (a.length + b.length ≤ 64)) := by
  cases a with
  | nil => exact absurd rfl ha
  | cons x a =>
    cases b with
    | nil => exact absurd rfl hb
    | cons y b =>
      rw [Bool.eq_iff_iff]
      simp only [vldL, Bool.and_eq_true, decide_eq_true_eq, List.all_append, List.length_append]
      simp only [List.isEmpty, List.cons_append, Bool.not_false, true_and]
      constructor
      · rintro ⟨h1, h2, h3⟩
        exact ⟨⟨⟨by omega, h2⟩, by omega, h3⟩, h1⟩
      · rintro ⟨⟨⟨_, h2⟩, _, h3⟩, h1⟩
        exact ⟨h1, h2, h3⟩

theorem vldL_one (c : UInt8) : vldL [c] = okb c := by simp [vldL]

theorem vldL_iff (l : List UInt8) : vldL l = true ↔ (0 < l.length ∧ l.length ≤ 64 ∧ l.all okb = true) := by
  cases l <;> simp [vldL]

theorem vldL_insert (a b : List UInt8) (c : UInt8) : vldL (a ++ [c] ++ b) = (vldL [c] && (decide (a.length + b.length = 0) || (vldL (a ++ b) && decide (a.length + b.length < 64)))) := by
  rw [Bool.eq_iff_iff]
  simp only [Bool.and_eq_true, Bool.or_eq_true, decide_eq_true_eq, vldL_iff, List.all_append, List.length_append, List.length_cons, List.length_nil]
  constructor
  · rintro ⟨h1, h2, ⟨h3, h4⟩, h5⟩
    refine ⟨⟨by omega, by omega, h4⟩, ?_⟩
    rcases Nat.eq_zero_or_pos (a.length + b.length) with h | h
    · exact .inl h
    · exact .inr ⟨⟨h, by omega, h3, h5⟩, by omega⟩
  · rintro ⟨⟨_, _, h4⟩, h | ⟨⟨h1, h2, h3, h5⟩, h6⟩⟩
    · obtain rfl : a = [] := List.eq_nil_of_length_eq_zero (by omega)
      obtain rfl : b = [] := List.eq_nil_of_length_eq_zero (by omega)
      exact ⟨by simp, by simp, ⟨rfl, h4⟩, rfl⟩
    · exact ⟨by omega, by omega, ⟨h3, h4⟩, h5⟩

end Go.Proofs.Qxb6630699a

/-
  FnAddAgreesWithNumber, WHOLE: every slice, every string.
-/
import Derived.Test.Qxb6630777aAgreeWalk
namespace Go.Proofs.Qxb6630777a
open Go.RowKit
set_option linter.unusedSimpArgs false
set_option linter.unusedVariables false

/-- The number of s among the different names of l; -1 where it is not there. -/
def wantN (l : List ByteArray) (s : ByteArray) : Int := if memB l s = true then (idx (ded l) s : Int) else -1

theorem wantN_in {l : List ByteArray} {s : ByteArray} (h : s ∈ l) : wantN l s = (idx (ded l) s : Int) := by unfold wantN; rw [if_pos (memB_iff.2 h)]
theorem wantN_out {l : List ByteArray} {s : ByteArray} (h : s ∉ l) : wantN l s = -1 := by unfold wantN; rw [if_neg (fun e => h (memB_iff.1 e))]

theorem agree_any (a : Option Addr) (len cap : Nat) (ss : List ByteArray) (s : ByteArray) (w : World) (hsl : s.size ≤ maxLen)
    (h : len = 0 ∨ ∃ b off, a = some ⟨b, off, none⟩ ∧ b < w.heap.size ∧ len ≤ maxLen ∧ len ≤ ss.length ∧ (∀ i, i < len → w.cell? ⟨b, off + i, none⟩ = some (.string (ss.getD i ByteArray.empty))) ∧ ∀ s ∈ ss, s.size ≤ maxLen) :
    Calls Try.prog 4 #[.slice a len cap, .string s] w fun e w' => e = .returned (.bool true) ∧ Below w.heap.size w w' := by
  obtain ⟨b, off, X, ha, hbw, hm, hX, hc, hmem⟩ : ∃ (b off : Nat) (X : List ByteArray), (1 ≤ len → a = some ⟨b, off, none⟩) ∧ (1 ≤ len → b < w.heap.size) ∧ len ≤ maxLen ∧ len = X.length ∧
      (∀ i, i < len → w.cell? ⟨b, off + i, none⟩ = some (.string (X.getD i ByteArray.empty))) ∧ ∀ s ∈ X, s.size ≤ maxLen := by
    by_cases h0 : len = 0
    · exact ⟨0, 0, [], fun h => by omega, fun h => by omega, by omega, by simp [h0], fun i hi => by omega, by simp⟩
    · obtain ⟨b, off, h1, h2, h3, h4, h5, h6⟩ := h.resolve_left h0
      exact ⟨b, off, ss.take len, fun _ => h1, fun _ => h2, h3, by simp; omega, fun i hi => by rw [h5 i hi]; simp [List.getD, List.getElem?_take, hi], fun s h => h6 s (List.mem_of_mem_take h)⟩
  have hnotin : ∀ k, k < len → (∀ i, i < k → X.getD i ByteArray.empty ≠ X.getD k ByteArray.empty) → X.getD k ByteArray.empty ∉ X.take k := by
    intro k hk hne hm'
    obtain ⟨i, hi, e⟩ := List.getElem_of_mem hm'
    rw [List.length_take] at hi
    refine hne i (by omega) ?_
    rw [← e, List.getElem_take]
    simp [List.getD, show i < X.length by omega]
  have hisin : ∀ k i, k < len → i < k → X.getD i ByteArray.empty = X.getD k ByteArray.empty → X.getD k ByteArray.empty ∈ X.take k := by
    intro k i hk hi e
    rw [← e]
    have : (X.take k).getD i ByteArray.empty ∈ X.take k := getD_mem (by simp; omega)
    rwa [show (X.take k).getD i ByteArray.empty = X.getD i ByteArray.empty from by simp [List.getD, List.getElem?_take, hi]] at this
  refine agree_row a b off len cap X (fun i => X.getD i ByteArray.empty) (fun k => (ded (X.take k)).length) (fun k => wantN (X.take k) s) s w hm hsl ha hc hX (fun _ => rfl) ?_ hbw (fun _ => rfl) ?_ ?_ ?_ ?_ ?_ ?_ ?_ ?_
  · intro i
    by_cases hi : i < X.length
    · exact hmem _ (getD_mem hi)
    · have : X.getD i ByteArray.empty = ByteArray.empty := by simp [List.getD, hi]
      rw [this]; simp [maxLen]
  · intro k
    have h1 := length_ded (X.take k)
    have h2 : (X.take k).length ≤ X.length := by simp; omega
    omega
  · show wantN (X.take 0) s = -1
    exact wantN_out (by simp)
  · intro k hk hne
    show (ded (X.take (k + 1))).length = (ded (X.take k)).length + 1
    rw [ded_take X k (by omega), addN_no (fun h => hnotin k hk hne (mem_ded.1 h))]
    simp
  · intro k i hk hi e
    have hin := hisin k i hk hi e
    have hd : ded (X.take (k + 1)) = ded (X.take k) := by rw [ded_take X k (by omega), addN_yes (mem_ded.2 hin)]
    refine ⟨by show (ded (X.take (k + 1))).length = _; rw [hd], ?_⟩
    show wantN (X.take (k + 1)) s = wantN (X.take k) s
    by_cases hs : s ∈ X.take k
    · rw [wantN_in hs, wantN_in (by rw [take_snoc X k (by omega)]; exact List.mem_append_left _ hs), hd]
    · rw [wantN_out hs, wantN_out]
      rw [take_snoc X k (by omega), List.mem_append]
      rintro (h | h)
      · exact hs h
      · simp only [List.mem_singleton] at h
        exact hs (by rw [h]; exact hin)
  · intro k hk hne e
    show wantN (X.take (k + 1)) s = ((ded (X.take k)).length : Int)
    have e' : X.getD k ByteArray.empty = s := e
    have hni := hnotin k hk hne
    rw [wantN_in (by rw [take_snoc X k (by omega), e']; simp), ded_take X k (by omega), e']
    rw [idx_new (fun h => hni (by rw [e']; exact mem_ded.1 h))]
  · intro k hk hne
    show wantN (X.take (k + 1)) s = wantN (X.take k) s
    have hne' : X.getD k ByteArray.empty ≠ s := hne
    by_cases hs : s ∈ X.take k
    · rw [wantN_in hs, wantN_in (by rw [take_snoc X k (by omega)]; exact List.mem_append_left _ hs), ded_take X k (by omega), idx_addN (mem_ded.2 hs)]
    · rw [wantN_out hs, wantN_out]
      rw [take_snoc X k (by omega), List.mem_append]
      rintro (h | h)
      · exact hs h
      · simp only [List.mem_singleton] at h
        exact hne' h.symm
  · intro hin
    show wantN (X.take len) s = _
    rw [List.take_of_length_le (by omega), wantN_in hin]
  · intro hout
    show wantN (X.take len) s = _
    rw [List.take_of_length_le (by omega), wantN_out hout]

end Go.Proofs.Qxb6630777a

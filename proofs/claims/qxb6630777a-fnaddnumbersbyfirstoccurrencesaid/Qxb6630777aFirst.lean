/-
  FnAddNumbersByFirstOccurrence, WHOLE: the empty slice; every slice.
-/
import Derived.Test.Qxb6630777aFirstWalk
namespace Go.Proofs.Qxb6630777a
open Go.RowKit
set_option linter.unusedSimpArgs false
set_option linter.unusedVariables false

set_option maxHeartbeats 400000 in
theorem bytes5_empty (a : Option Addr) (cap : Nat) (w : World) :
    Calls Try.prog 5 #[.slice a 0 cap] w fun e w' => e = .returned (.bool true) ∧ w' = w := by
  go_enter Try.func5, Try.ntmps5
  go_wp2
  go_loop [3, 4] (fun t i => i = .int .i64 0 ∧ t = .int .i64 0) (fun _ _ => 0)
  case atStart => exact ⟨rfl, rfl⟩
  case round =>
    obtain ⟨rfl, rfl⟩ := hrel
    go_wp2
    go_ret
    exact ⟨rfl, rfl⟩

theorem new_cells (w : World) (o : Obj) : ((w.alloc (.cells #[.slice none 0 0, .map none] 35)).alloc o).heap[w.heap.size]? = some (.cells #[.slice none 0 0, .map none] 35 (0, 0)) := by
  rw [Below.heap_alloc _ _ _ (by simp)]
  show (w.heap.push _)[w.heap.size]? = _
  simp

set_option maxRecDepth 100000 in
set_option maxHeartbeats 1000000 in
theorem first_empty (a : Option Addr) (cap : Nat) (w : World) :
    Calls Try.prog 3 #[.slice a 0 cap] w fun e w' => e = .returned (.bool true) ∧ Below w.heap.size w w' := by
  have hmk : ∀ w : World, (Instr.makeSlice 26 (.int .i64 0) (.int .i64 0)).run Try.prog w = .ok (.slice (some ⟨w.heap.size, 0, none⟩) 0 0) (w.alloc (.cells (madeCells #[.int .i64 0] 0) 3)) :=
    fun w => run_make_row' (P := Try.prog) 26 3 (.int .i64 0) 8 Try.underlying26 Try.info3 rfl .i64 .i64 0 (by omega) (by omega) w
  have hnm := fun (w : World) (r : Option Nat) => run_neq_map_nil (P := Try.prog) w 29 9 3 r Try.underlying29
  go_enter Try.func3, Try.ntmps3
  go_wp2_with fail
  refine (bytes5_empty a cap _).mono ?_
  rintro e w' ⟨rfl, rfl⟩
  go_wp2_with fail
  go_loop [3, 4] (fun t i => i = .int .i64 0 ∧ t = .int .i64 0) (fun _ _ => 0)
  case atStart => exact ⟨rfl, rfl⟩
  case round =>
    obtain ⟨rfl, rfl⟩ := hrel
    go_wp2_with fail
    refine (zznew _).mono ?_
    rintro e w1 ⟨rfl, rfl⟩
    go_wp2_with fail
    go_loop [7, 8] (fun t i => i = .int .i64 0 ∧ t = .int .i64 0) (fun _ _ => 0)
    case atStart => exact ⟨rfl, rfl⟩
    case round =>
      obtain ⟨rfl, rfl⟩ := hrel
      go_wp2_with fail
      refine (zznames _ _ _ _ _ _ (new_cells w' _)).mono ?_
      rintro e w4 ⟨rfl, rfl⟩
      go_wp2_with fail
      go_loop [13] (fun i => i = .int .i64 0) (fun _ => 0)
      case atStart => rfl
      case round =>
        subst hrel
        go_wp2_with fail
        refine (zzbyName _ _ _ _ (new_cells w' _)).mono ?_
        rintro e w5 ⟨rfl, rfl⟩
        go_wp2_with fail
        go_ret
        exact ⟨rfl, ((Below.refl _ _).alloc (Nat.le_refl _) _).alloc (by simp) _⟩

/-- The law, whole. -/
theorem first_any (a : Option Addr) (len cap : Nat) (ss : List ByteArray) (w : World)
    (h : len = 0 ∨ ∃ b off, a = some ⟨b, off, none⟩ ∧ b < w.heap.size ∧ len ≤ maxLen ∧ len ≤ ss.length ∧ (∀ i, i < len → w.cell? ⟨b, off + i, none⟩ = some (.string (ss.getD i ByteArray.empty))) ∧ ∀ s ∈ ss, s.size ≤ maxLen) :
    Calls Try.prog 3 #[.slice a len cap] w fun e w' => e = .returned (.bool true) ∧ Below w.heap.size w w' := by
  by_cases h0 : len = 0
  · subst h0; exact first_empty a cap w
  · obtain ⟨b, off, rfl, hbw, hm, hl, hc, hs⟩ := h.resolve_left h0
    have hX : len = (ss.take len).length := by simp; omega
    have hget : ∀ i, i < len → (ss.take len).getD i ByteArray.empty = ss.getD i ByteArray.empty := fun i hi => by simp [List.getD, List.getElem?_take, hi]
    have hmem : ∀ s ∈ ss.take len, s.size ≤ maxLen := fun s h => hs s (List.mem_of_mem_take h)
    obtain ⟨X, hXe⟩ : ∃ X, X = ss.take len := ⟨_, rfl⟩
    rw [← hXe] at hX hget hmem
    clear hXe
    have hin : ∀ k, k < len → X.getD k ByteArray.empty ∈ X.take (k + 1) := fun k hk => by rw [take_snoc X k (by omega)]; simp
    have hnotin : ∀ k, k < len → (∀ i, i < k → X.getD i ByteArray.empty ≠ X.getD k ByteArray.empty) → X.getD k ByteArray.empty ∉ ded (X.take k) := by
      intro k hk hne hm
      have hm' := mem_ded.1 hm
      obtain ⟨i, hi, e⟩ := List.getElem_of_mem hm'
      rw [List.length_take] at hi
      refine hne i (by omega) ?_
      rw [← e, List.getElem_take]
      simp [List.getD, show i < X.length by omega]
    have hR : ∀ k, k < len → idx (addN (ded (X.take k)) (X.getD k ByteArray.empty)) (X.getD k ByteArray.empty) = idx (ded X) (X.getD k ByteArray.empty) := by
      intro k hk
      rw [← ded_take X k (by omega)]
      exact idx_ded_take X k (by omega)
    refine first_row b off len cap X (fun i => X.getD i ByteArray.empty) (fun i => idx (ded X) (X.getD i ByteArray.empty)) (fun k => (ded (X.take k)).length) w (by omega) hm (fun i hi => by rw [hget i hi]; exact hc i hi)
      hX (fun _ => rfl) (fun _ => rfl) ?_ hbw (fun _ => rfl) ?_ hR ?_ ?_ ?_ ?_ ?_ ?_
    · intro i
      by_cases hi : i < X.length
      · exact hmem _ (getD_mem hi)
      · have : X.getD i ByteArray.empty = ByteArray.empty := by simp [List.getD, hi]
        rw [this]; simp [maxLen]
    · intro k
      have h1 := length_ded (X.take k)
      have h2 : (X.take k).length ≤ X.length := by simp; omega
      omega
    · intro i j e
      show idx (ded X) (X.getD i ByteArray.empty) = idx (ded X) (X.getD j ByteArray.empty)
      rw [show X.getD i ByteArray.empty = X.getD j ByteArray.empty from e]
    · intro k hk hne
      show idx (ded X) (X.getD k ByteArray.empty) = (ded (X.take k)).length
      rw [← hR k hk, idx_new (hnotin k hk hne)]
    · intro k hk hne
      show (ded (X.take (k + 1))).length = (ded (X.take k)).length + 1
      rw [ded_take X k (by omega), addN_no (hnotin k hk hne)]
      simp
    · intro k i hk hi e
      show (ded (X.take (k + 1))).length = (ded (X.take k)).length
      have hmem2 : X.getD k ByteArray.empty ∈ ded (X.take k) := by
        rw [mem_ded, ← show X.getD i ByteArray.empty = X.getD k ByteArray.empty from e]
        have : (X.take k).getD i ByteArray.empty ∈ X.take k := getD_mem (by simp; omega)
        rwa [show (X.take k).getD i ByteArray.empty = X.getD i ByteArray.empty from by simp [List.getD, List.getElem?_take, hi]] at this
      rw [ded_take X k (by omega), addN_yes hmem2]
    · show 1 ≤ (ded (X.take len)).length
      rw [List.take_of_length_le (by omega)]
      have : X.getD 0 ByteArray.empty ∈ ded X := mem_ded.2 (getD_mem (by omega))
      exact Nat.lt_of_le_of_lt (Nat.zero_le _) (idx_lt this)
    · intro k hk
      have hmm : X.getD k ByteArray.empty ∈ ded X := mem_ded.2 (getD_mem (by omega))
      refine ⟨?_, getD_idx hmm⟩
      show idx (ded X) (X.getD k ByteArray.empty) < (ded (X.take len)).length
      rw [List.take_of_length_le (by omega)]
      exact idx_lt hmm

end Go.Proofs.Qxb6630777a

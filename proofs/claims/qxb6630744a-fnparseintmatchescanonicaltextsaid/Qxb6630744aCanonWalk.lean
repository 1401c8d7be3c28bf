/-
  THE WALK OF FnParseIntMatchesCanonicalText.
-/
import Derived.Test.Qxb6630744aModelWalk
import Derived.Laws.CopyOwn
import Derived.OpenShut
namespace Go.Proofs.Qxb6630744a
open Go.RowKit
set_option linter.unusedSimpArgs false
set_option linter.unusedVariables false

set_option maxHeartbeats 400000 in
theorem bytes5 (a : Option Addr) (n cap : Nat) (w : World) (hn : n ≤ maxLen) :
    Calls Try.prog 5 #[.slice a n cap] w fun e w' => e = .returned (.bool (decide (n ≤ 1048576))) ∧ w' = w := by
  unfold maxLen at hn
  go_enter Try.func5, Try.ntmps5
  go_wp2
  all_goals
    go_ret
    refine ⟨ret_bool ?_, rfl⟩
    symm
    first
      | exact decide_eq_true (by omega)
      | exact decide_eq_false (by omega)

theorem bytes5_no (a : Option Addr) (n cap : Nat) (w : World) (hn : n ≤ maxLen) (h : 1048576 < n) :
    Calls Try.prog 5 #[.slice a n cap] w fun e w' => e = .returned (.bool false) ∧ w' = w := by
  have hc := bytes5 a n cap w hn
  rwa [decide_eq_false (by omega)] at hc
theorem bytes5_yes (a : Option Addr) (n cap : Nat) (w : World) (h : n ≤ 1048576) :
    Calls Try.prog 5 #[.slice a n cap] w fun e w' => e = .returned (.bool true) ∧ w' = w := by
  have hc := bytes5 a n cap w (by unfold maxLen; omega)
  rwa [decide_eq_true h] at hc

set_option maxHeartbeats 400000 in
theorem canon_long (a : Option Addr) (n cap : Nat) (w : World) (hn : n ≤ maxLen) (h : 1048576 < n) :
    Calls Try.prog 3 #[.slice a n cap] w fun e w' => e = .returned (.bool true) ∧ Below w.heap.size w w' := by
  go_enter Try.func3, Try.ntmps3
  go_wp2_with (go_at_call 5; refine (bytes5_no a n cap _ hn h).mono ?_; rintro e w' ⟨rfl, rfl⟩)
  go_ret
  exact ⟨rfl, Below.refl _ _⟩

set_option maxHeartbeats 400000 in
theorem canon_nil (w : World) :
    Calls Try.prog 3 #[.slice none 0 0] w fun e w' => e = .returned (.bool true) ∧ Below w.heap.size w w' := by
  have hnil := fun (w : World) (a : Option Addr) (n c : Nat) => run_neq_slice_nil_any (P := Try.prog) w 22 5 a n c 0 0 Try.underlying22
  go_enter Try.func3, Try.ntmps3
  go_wp2_with fail
  refine (bytes5_yes none 0 0 _ (by omega)).mono ?_
  rintro e w' ⟨rfl, rfl⟩
  go_wp2_with fail
  refine (model_nil none 0 _).mono ?_
  rintro e w1 ⟨rfl, hb1⟩
  go_wp2_with fail
  refine (parse_nil none 0 _).mono ?_
  rintro e w2 ⟨rfl, rfl⟩
  go_wp2_with fail
  go_ret
  exact ⟨rfl, hb1⟩

theorem below_setCells {B g : Nat} {w0 : World} (hBg : B ≤ g) : ∀ (vs : List Value) (o : Nat) (w : World), Below B w0 w → Below B w0 (w.setCells g o vs)
  | [], _, _, h => h
  | v :: r, o, w, h => below_setCells hBg r (o + 1) _ (h.setCell (p := ⟨g, o, none⟩) hBg v)

theorem copy_run (w : World) (b off n cap : Nat) (l : List Int) (hn : n = l.length) (hrow : Row w b off l) :
    ∃ w2, (Builtin.copy_ #[22, 22] 3 #[.slice (some ⟨w.heap.size, 0, none⟩) n n, .slice (some ⟨b, off, none⟩) n cap]).run Try.prog (w.alloc (.cells (madeCells #[Value.int .u8 0] n) 5)) = .ok (.int .i64 (n : Int)) w2 ∧
      Row w2 w.heap.size 0 l ∧ Below w.heap.size w w2 := by
  subst hn
  have hb : Below w.heap.size w (w.alloc (.cells (madeCells #[Value.int .u8 0] l.length) 5)) := (Below.refl _ _).alloc (Nat.le_refl _) _
  have hrow1 := hrow.below hb
  have hmade := World.rowIs_made w (.int .u8 0) l.length 5
  have hcs : (l.map (Value.int .u8)).length = l.length := by simp
  have hdst : ∀ j, j < (l.map (Value.int .u8)).length → ((w.alloc (.cells (madeCells #[Value.int .u8 0] l.length) 5)).cell? ⟨w.heap.size, 0 + j, none⟩).isSome = true := by
    intro j hj
    rw [Nat.zero_add, hmade.cell (by omega)]
    rfl
  have hrun := run_copy_cells (P := Try.prog) (w.alloc (.cells (madeCells #[Value.int .u8 0] l.length) 5)) 22 22 3 5 w.heap.size 0 l.length l.length ⟨b, off, none⟩ l.length cap (l.map (Value.int .u8))
    Try.underlying22 (by kernel_rfl) (by simp) (by
      intro j v hj
      obtain ⟨hj1, rfl⟩ := List.getElem?_eq_some_iff.1 hj
      have hj2 : j < l.length := by simpa using hj1
      rw [show (⟨b, off, none⟩ : Addr).add j = ⟨b, off + j, none⟩ from by unfold Addr.add; split <;> simp_all]
      rw [hrow1.1 j hj2]
      simp [List.getD, hj2]) hdst (fun j _ => by rw [Nat.zero_add]; exact hmade.frozen j) (by intro v hv; obtain ⟨x, _, rfl⟩ := List.mem_map.1 hv; rfl)
  refine ⟨(w.alloc (.cells (madeCells #[Value.int .u8 0] l.length) 5)).setCells w.heap.size 0 (l.map (Value.int .u8)), ?_, ⟨?_, hrow.2⟩, below_setCells (Nat.le_refl _) _ _ _ hb⟩
  · rw [hrun]
    simp [goInt]
  · intro i hi
    rw [World.cell?_setCells_in w.heap.size (l.map (Value.int .u8)) 0 _ hdst i (by simpa using hi)]
    simp [List.getD, hi]

theorem model_is (b off cap n : Nat) (l : List Int) (r : Int) (ok : Bool) (w : World) (hr : r = (parse l).getD 0 ∧ ok = (parse l).isSome) (hn : n = l.length) (hrow : Row w b off l) (hcap : n ≤ cap) (hm : cap ≤ maxLen) :
    Calls Try.prog 6 #[.slice (some ⟨b, off, none⟩) n cap] w fun e w' => e = .returned (.tuple #[.int .i64 r, .bool ok]) ∧ Below w.heap.size w w' := by
  rw [hr.1, hr.2, parse_model]
  exact model_row b off cap n l w hn hrow hcap hm
theorem parse_is (b off cap n : Nat) (l : List Int) (r : Int) (ok : Bool) (w : World) (hr : r = (parse l).getD 0 ∧ ok = (parse l).isSome) (hn : n = l.length) (hrow : Row w b off l) (hcap : n ≤ cap) (hm : cap ≤ maxLen) :
    Calls Try.prog 7 #[.slice (some ⟨b, off, none⟩) n cap] w fun e w' => e = .returned (.tuple #[.int .i64 r, .bool ok]) ∧ w' = w := by
  rw [hr.1, hr.2]
  exact parse_row b off cap n l w hn hrow hcap hm

set_option maxHeartbeats 400000 in
theorem canon_row (b off n cap : Nat) (l : List Int) (r : Int) (ok : Bool) (w : World) (h : n ≤ 1048576) (Hn : Hid (n = l.length)) (hrow : Row w b off l) (Hr : Hid (r = (parse l).getD 0 ∧ ok = (parse l).isSome)) :
    Calls Try.prog 3 #[.slice (some ⟨b, off, none⟩) n cap] w fun e w' => e = .returned (.bool true) ∧ Below w.heap.size w w' := by
  have hnil := fun (w : World) (a : Option Addr) (n c : Nat) => run_neq_slice_nil_any (P := Try.prog) w 22 5 a n c 0 0 Try.underlying22
  have hmk := run_make_row' (P := Try.prog) 22 5 (.int .u8 0) 1 Try.underlying22 Try.info5 rfl .i64 .i64 n (by omega) (by omega)
  obtain ⟨w2, hcp, hrow2, hbel2⟩ := copy_run w b off n cap l Hn.out hrow
  go_enter Try.func3, Try.ntmps3
  go_wp2_with fail
  refine (bytes5_yes _ n cap _ h).mono ?_
  rintro e w' ⟨rfl, rfl⟩
  go_wp2_with fail
  refine (model_is _ 0 n n l r ok _ Hr.out Hn.out hrow2 (Nat.le_refl _) (by unfold maxLen; omega)).mono ?_
  rintro e w3 ⟨rfl, hbel3⟩
  go_wp2_with fail
  refine (parse_is _ 0 n n l r ok _ Hr.out Hn.out (hrow2.below hbel3) (Nat.le_refl _) (by unfold maxLen; omega)).mono ?_
  rintro e w4 ⟨rfl, rfl⟩
  go_wp2_with fail
  go_ret
  exact ⟨rfl, hbel2.trans (hbel3.mono hbel2.size)⟩

set_option maxHeartbeats 400000 in
theorem canon_empty (x : Addr) (cap : Nat) (w : World) :
    Calls Try.prog 3 #[.slice (some x) 0 cap] w fun e w' => e = .returned (.bool true) ∧ Below w.heap.size w w' := by
  have hnil := fun (w : World) (a : Option Addr) (n c : Nat) => run_neq_slice_nil_any (P := Try.prog) w 22 5 a n c 0 0 Try.underlying22
  have hmk : ∀ w : World, (Instr.makeSlice 22 (.int .i64 0) (.int .i64 0)).run Try.prog w = .ok (.slice (some ⟨w.heap.size, 0, none⟩) 0 0) (w.alloc (.cells (madeCells #[.int .u8 0] 0) 5)) :=
    fun w => run_make_row' (P := Try.prog) 22 5 (.int .u8 0) 1 Try.underlying22 Try.info5 rfl .i64 .i64 0 (by omega) (by omega) w
  have hcp := fun (w : World) (a : Addr) => run_copy_none (P := Try.prog) w 22 22 3 5 (some a) (some x) 0 0 0 cap Try.underlying22 (by kernel_rfl) rfl
  go_enter Try.func3, Try.ntmps3
  go_wp2_with fail
  refine (bytes5_yes _ 0 cap _ (by omega)).mono ?_
  rintro e w' ⟨rfl, rfl⟩
  go_wp2_with fail
  refine (model_nil _ 0 _).mono ?_
  rintro e w1 ⟨rfl, hb1⟩
  go_wp2_with fail
  refine (parse_nil _ 0 _).mono ?_
  rintro e w2 ⟨rfl, rfl⟩
  go_wp2_with fail
  go_ret
  exact ⟨rfl, ((Below.refl _ _).alloc (Nat.le_refl _) _).trans (hb1.mono (by simp))⟩

/-- The law, whole. -/
theorem canon_any (a : Option Addr) (len cap : Nat) (zs : List Int) (w : World)
    (h : (a = none ∧ len = 0 ∧ cap = 0 ∧ zs = []) ∨ ∃ x, a = some x ∧ len ≤ cap ∧ cap ≤ maxLen ∧ zs.length = cap ∧ (∀ i, i < zs.length → w.cell? (x.add i) = some (.int .u8 (zs.getD i 0))) ∧ ∀ n ∈ zs, 0 ≤ n ∧ n ≤ 255) :
    Calls Try.prog 3 #[.slice a len cap] w fun e w' => e = .returned (.bool true) ∧ Below w.heap.size w w' := by
  rcases h with ⟨rfl, rfl, rfl, rfl⟩ | ⟨x, rfl, h1, h2, h3, h4, h5⟩
  · exact canon_nil w
  · by_cases hl : 1048576 < len
    · exact canon_long _ len cap w (by omega) hl
    · by_cases h0 : len = 0
      · subst h0; exact canon_empty x cap w
      · obtain ⟨b, off, rfl, hc⟩ := ints_at h4 (by omega)
        refine canon_row b off len cap (zs.take len) _ _ w (by omega) (by show len = _; simp; omega) ⟨fun i hi => ?_, fun c hc => h5 c (List.mem_of_mem_take hc)⟩ ⟨rfl, rfl⟩
        have hi' : i < len := by simp at hi; omega
        rw [hc i (by omega)]
        simp [List.getD, List.getElem?_take, hi']

end Go.Proofs.Qxb6630744a

/-
  THE WALK OF FnParseIntSignFlip.
-/
import Derived.Test.Qxb6630744aTextWalk
namespace Go.Proofs.Qxb6630744a
open Go.RowKit
set_option linter.unusedSimpArgs false
set_option linter.unusedVariables false

theorem ret_bool {a b : Bool} (h : a = b) : Ending.returned (.bool a) = .returned (.bool b) := by rw [h]

theorem parse_some (b off cap n : Nat) (l : List Int) (v : Int) (w : World) (h : parse l = some v) (hn : n = l.length) (hrow : Row w b off l) (hcap : n ≤ cap) (hm : cap ≤ maxLen) :
    Calls Try.prog 7 #[.slice (some ⟨b, off, none⟩) n cap] w fun e w' => e = .returned (.tuple #[.int .i64 v, .bool true]) ∧ w' = w := by
  have := parse_row b off cap n l w hn hrow hcap hm
  rw [h] at this
  exact this
theorem parse_none (b off cap n : Nat) (l : List Int) (w : World) (h : parse l = none) (hn : n = l.length) (hrow : Row w b off l) (hcap : n ≤ cap) (hm : cap ≤ maxLen) :
    Calls Try.prog 7 #[.slice (some ⟨b, off, none⟩) n cap] w fun e w' => e = .returned (.tuple #[.int .i64 0, .bool false]) ∧ w' = w := by
  have := parse_row b off cap n l w hn hrow hcap hm
  rw [h] at this
  exact this

theorem parse_text (v : Int) (h0 : -9223372036854775808 ≤ v) (h1 : v ≤ 9223372036854775807) : parse (text v) = some v := by
  by_cases h : v < 0
  · rw [text, if_pos h, parse_neg v.natAbs (by omega) (by omega)]
    congr 1; omega
  · rw [text, if_neg h, parse_digs v.natAbs (by omega)]
    congr 1; omega

theorem text_len (v : Int) (h0 : -9223372036854775808 ≤ v) (h1 : v ≤ 9223372036854775807) : 1 ≤ (text v).length ∧ (text v).length ≤ 20 := by
  have h := digs_len v.natAbs (by omega)
  have h' : 0 < (digs v.natAbs).length := List.length_pos_iff.2 (digs_ne _)
  unfold text
  split
  · simp; omega
  · omega

theorem negZero_row (w : World) : Row (w.alloc (Obj.cells #[Value.int IntKind.u8 45, Value.int IntKind.u8 48] 5)) w.heap.size 0 [45, 48] := by
  refine ⟨fun i hi => ?_, by simp⟩
  rw [World.cell?_alloc_mark]
  match i, hi with
  | 0, _ => rfl
  | 1, _ => rfl

set_option maxHeartbeats 400000 in
theorem flip_zero (w : World) :
    Calls Try.prog 4 #[.int .i64 0] w fun e w' => e = .returned (.bool true) ∧ Below w.heap.size w w' := by
  have hl := text_len 0 (by omega) (by omega)
  have hml : (text 0).length ≤ maxLen := by unfold maxLen; omega
  go_enter Try.func4, Try.ntmps4
  go_wp2_with fail
  refine (text_any 0 _ (by omega) (by omega)).mono ?_
  rintro e w1 ⟨b, rfl, hb, hrow, hbel⟩
  go_wp2_with fail
  refine (parse_some b 0 _ _ (text 0) 0 _ (parse_text 0 (by omega) (by omega)) rfl hrow (Nat.le_refl _) hml).mono ?_
  rintro e w2 ⟨rfl, rfl⟩
  go_wp2_with fail
  refine (parse_none _ 0 _ _ [45, 48] _ parse_negZero rfl (negZero_row _) (Nat.le_refl _) (by unfold maxLen; simp)).mono ?_
  rintro e w3 ⟨rfl, rfl⟩
  go_wp2_with fail
  go_ret
  exact ⟨rfl, hbel.alloc hbel.size _⟩

theorem Row.below {w w' : World} {b off : Nat} {l : List Int} (h : Row w b off l) (hb : Below w.heap.size w w') : Row w' b off l := by
  refine ⟨fun i hi => ?_, h.2⟩
  have h1 := h.1 i hi
  have hlt : b < w.heap.size := by
    apply Classical.byContradiction
    intro hn
    have : w.heap[b]? = none := by simp; omega
    simp [World.cell?, this] at h1
  rw [hb.cell (p := ⟨b, off + i, none⟩) hlt]
  exact h1

/-- The row "-" ++ T while it is filled. -/
def mF (T : List Int) (j i : Nat) : Int := if i < j + 1 then ((45 : Int) :: T).getD i 0 else 0

def MInv (w1 : World) (T : List Int) (j : Nat) (wr : World) : Prop :=
  wr.rowIs w1.heap.size 5 (T.length + 1) (fun i => .int .u8 (mF T j i)) ∧ Below w1.heap.size w1 wr

theorem minv_start (w1 : World) (T : List Int) : MInv w1 T 0 (w1.alloc (.cells ((madeCells #[Value.int .u8 0] (T.length + 1)).setIfInBounds 0 (.int .u8 45)) 5)) := by
  refine ⟨?_, (Below.refl _ _).alloc (Nat.le_refl _) _⟩
  have hs : ((madeCells #[Value.int .u8 0] (T.length + 1)).setIfInBounds 0 (.int .u8 45)).size = T.length + 1 := by simp [madeCells]
  have := World.rowIs_alloc w1 ((madeCells #[Value.int .u8 0] (T.length + 1)).setIfInBounds 0 (.int .u8 45)) 5 (fun i => .int .u8 (mF T 0 i)) ?_
  · rw [hs] at this
    exact this
  · intro i hi
    rw [hs] at hi
    rw [Array.getElem?_setIfInBounds]
    by_cases e : 0 = i
    · subst e
      rw [if_pos rfl, if_pos (by simp [madeCells])]
      rfl
    · rw [if_neg e]
      have : mF T 0 i = 0 := by rw [mF, if_neg (by omega)]
      rw [this]
      simp [madeCells, hi, Nat.mod_one]

theorem minv_step {w1 wr : World} {T : List Int} {j : Nat} (h : MInv w1 T j wr) (c : Int) (hc : c = T.getD j 0) : MInv w1 T (j + 1) (wr.setCell ⟨w1.heap.size, j + 1, none⟩ (.int .u8 c)) := by
  obtain ⟨h1, h2⟩ := h
  refine ⟨(h1.set (j + 1) _).congr ?_, h2.setCell (Nat.le_refl _) _⟩
  intro i _
  show (if i = j + 1 then Value.int .u8 c else .int .u8 (mF T j i)) = .int .u8 (mF T (j + 1) i)
  by_cases e : i = j + 1
  · subst e
    rw [if_pos rfl, mF, if_pos (by omega), hc]
    rfl
  · rw [if_neg e]
    congr 1
    unfold mF
    by_cases e2 : i < j + 1
    · rw [if_pos e2, if_pos (by omega)]
    · rw [if_neg e2, if_neg (by omega)]

theorem minv_done {w1 wr : World} {T : List Int} {j : Nat} (h : MInv w1 T j wr) (hj : T.length ≤ j) (hT : ∀ c ∈ T, 0 ≤ c ∧ c ≤ 255) : Row wr w1.heap.size 0 (45 :: T) := by
  refine ⟨fun i hi => ?_, fun c hc => (List.mem_cons.1 hc).elim (fun h => by omega) (hT c)⟩
  rw [Nat.zero_add, h.1.cell hi]
  show some (Value.int .u8 (mF T j i)) = _
  rw [mF, if_pos (by simp at hi; omega)]

set_option maxHeartbeats 400000 in
theorem flip_pos (N : Nat) (w : World) (h0 : 0 < N) (h1 : N ≤ 9223372036854775807) :
    Calls Try.prog 4 #[.int .i64 (N : Int)] w fun e w' => e = .returned (.bool true) ∧ Below w.heap.size w w' := by
  have hl := digs_len N (by omega)
  have hz : ((N : Int) == 0) = false := by rw [beq_eq_false_iff_ne]; omega
  have hml : (digs N).length ≤ maxLen := by unfold maxLen; omega
  obtain ⟨L, hL⟩ : ∃ L, L = (digs N).length := ⟨_, rfl⟩
  have HL : Hid (L = (digs N).length) := hL
  rw [← hL] at hl hml
  have hmk := run_make_row' (P := Try.prog) 22 5 (.int .u8 0) 1 Try.underlying22 Try.info5 rfl .i64 .i64 (L + 1) (by omega) (by omega)
  rw [show ((L + 1 : Nat) : Int) = (L : Int) + 1 by omega] at hmk
  have hm0 : (madeCells #[Value.int IntKind.u8 0] (L + 1))[0]? = some (.int .u8 0) := by simp [madeCells]
  go_enter Try.func4, Try.ntmps4
  go_wp2_with fail
  refine (text_pos N _ h1).mono ?_
  rintro e w1 ⟨b, rfl, hb, hrow, hbel⟩
  rw [← hL]
  clear hL
  go_wp2_with fail
  refine (parse_some b 0 _ _ (digs N) N _ (parse_digs N h1) HL.out hrow (Nat.le_refl _) hml).mono ?_
  rintro e w2 ⟨rfl, rfl⟩
  go_wp2_with fail
  go_loopw [10] (fun i wr => ∃ j : Nat, i = .int .i64 (j : Int) ∧ j ≤ L ∧ MInv w2 (digs N) j wr) (fun i _ => L - (intOf i).toNat)
  case atStart => exact ⟨0, rfl, Nat.zero_le _, by rw [HL.out]; exact minv_start w2 (digs N)⟩
  case round =>
    obtain ⟨j, rfl, hj, hM⟩ := hrel
    by_cases hlt : j < L
    · have hjl : j < (digs N).length := by have := HL.out; omega
      have q1 := (hrow.below hM.2).1 j hjl
      have q2 := hM.1.cell (i := j + 1) (by omega)
      have q3 := hM.1.frozen (j + 1)
      have HM : Hid (MInv w2 (digs N) j wr) := hM
      clear hM
      rw [Nat.zero_add] at q1
      obtain ⟨c, hcq⟩ : ∃ c : Int, c = (digs N).getD j 0 := ⟨_, rfl⟩
      rw [← hcq] at q1
      have HQ : Hid (c = (digs N).getD j 0) := hcq
      clear hcq hjl
      go_wp2
      go_roundw
      case rel => exact ⟨j + 1, by go_num, by omega, minv_step HM.out _ HQ.out⟩
      case measure => simp [intOf]; omega
    · have HB : Hid (Below w.heap.size w wr) := hbel.trans (hM.2.mono hbel.size)
      have hr2 := minv_done hM (by have := HL.out; omega) (digs_bd N)
      clear hM
      go_wp2_with fail
      refine (parse_some w2.heap.size 0 _ _ (45 :: digs N) (-(N : Int)) _ (parse_neg N h0 (by omega)) (by simp [HL.out]) hr2 (Nat.le_refl _) (by unfold maxLen; omega)).mono ?_
      rintro e w3 ⟨rfl, rfl⟩
      go_wp2_with fail
      go_ret
      exact ⟨rfl, HB.out⟩

theorem Row.rest {w : World} {b off : Nat} {c : Int} {l : List Int} (h : Row w b off (c :: l)) : Row w b (off + 1) l :=
  ⟨h.tail, fun x hx => h.2 x (List.mem_cons_of_mem _ hx)⟩

set_option maxHeartbeats 400000 in
theorem flip_neg (v : Int) (N : Nat) (w : World) (h0 : v < 0) (h1 : -9223372036854775807 ≤ v) (HN : Hid (v.natAbs = N)) (h2 : N ≤ 9223372036854775807) :
    Calls Try.prog 4 #[.int .i64 v] w fun e w' => e = .returned (.bool true) ∧ Below w.heap.size w w' := by
  have hl := digs_len N (by omega)
  have hpos : 0 < (digs N).length := List.length_pos_iff.2 (digs_ne N)
  have hz : (v == 0) = false := by rw [beq_eq_false_iff_ne]; omega
  have hmin : (v == -9223372036854775808) = false := by rw [beq_eq_false_iff_ne]; omega
  obtain ⟨L, hL⟩ : ∃ L, L = (digs N).length := ⟨_, rfl⟩
  have HL : Hid (L = (digs N).length) := hL
  rw [← hL] at hl hpos
  go_enter Try.func4, Try.ntmps4
  go_wp2_with fail
  refine (text_negv v N _ h0 (by omega) HN (by omega)).mono ?_
  rintro e w1 ⟨b, rfl, hb, hrow, hbel⟩
  rw [List.length_cons, ← hL]
  clear hL
  go_wp2_with fail
  refine (parse_some b 0 _ _ (45 :: digs N) v _ ?_ (by simp [HL.out]) hrow (Nat.le_refl _) (by unfold maxLen; omega)).mono ?_
  · rw [parse_neg N (by have := HN.out; omega) (by omega)]
    have := HN.out
    congr 1; omega
  rintro e w2 ⟨rfl, rfl⟩
  go_wp2_with fail
  refine (parse_some b 1 _ _ (digs N) N _ (parse_digs N h2) HL.out hrow.rest (by omega) (by unfold maxLen; omega)).mono ?_
  rintro e w3 ⟨rfl, rfl⟩
  go_wp2_with fail
  go_ret
  refine ⟨ret_bool ?_, hbel⟩
  have := HN.out
  rw [beq_iff_eq]
  omega

set_option maxHeartbeats 400000 in
theorem flip_least (v : Int) (N : Nat) (w : World) (h0 : v < 0) (h1 : -9223372036854775808 ≤ v) (hmin : (v == -9223372036854775808) = true) (HN : Hid (v.natAbs = N)) (h2 : N ≤ 9223372036854775808) (h3 : 9223372036854775807 < N) :
    Calls Try.prog 4 #[.int .i64 v] w fun e w' => e = .returned (.bool true) ∧ Below w.heap.size w w' := by
  have hl := digs_len N (by omega)
  have hpos : 0 < (digs N).length := List.length_pos_iff.2 (digs_ne N)
  have hz : (v == 0) = false := by rw [beq_eq_false_iff_ne]; omega
  obtain ⟨L, hL⟩ : ∃ L, L = (digs N).length := ⟨_, rfl⟩
  have HL : Hid (L = (digs N).length) := hL
  rw [← hL] at hl hpos
  go_enter Try.func4, Try.ntmps4
  go_wp2_with fail
  refine (text_negv v N _ h0 (by omega) HN (by omega)).mono ?_
  rintro e w1 ⟨b, rfl, hb, hrow, hbel⟩
  rw [List.length_cons, ← hL]
  clear hL
  go_wp2_with fail
  refine (parse_some b 0 _ _ (45 :: digs N) v _ ?_ (by simp [HL.out]) hrow (Nat.le_refl _) (by unfold maxLen; omega)).mono ?_
  · rw [parse_neg N (by have := HN.out; omega) (by omega)]
    have := HN.out
    congr 1; omega
  rintro e w2 ⟨rfl, rfl⟩
  go_wp2_with fail
  refine (parse_none b 1 _ _ (digs N) _ (parse_over N h3) HL.out hrow.rest (by omega) (by unfold maxLen; omega)).mono ?_
  rintro e w3 ⟨rfl, rfl⟩
  go_wp2_with fail
  go_ret
  exact ⟨rfl, hbel⟩

/-- The law, whole. -/
theorem flip_any (v : Int) (w : World) (h0 : -9223372036854775808 ≤ v) (h1 : v ≤ 9223372036854775807) :
    Calls Try.prog 4 #[.int .i64 v] w fun e w' => e = .returned (.bool true) ∧ Below w.heap.size w w' := by
  by_cases hz : v = 0
  · subst hz; exact flip_zero w
  · by_cases hp : 0 < v
    · have := flip_pos v.natAbs w (by omega) (by omega)
      rwa [show (v.natAbs : Int) = v by omega] at this
    · by_cases hm : v = -9223372036854775808
      · exact flip_least v v.natAbs w (by omega) h0 (by rw [beq_iff_eq]; exact hm) rfl (by omega) (by omega)
      · exact flip_neg v v.natAbs w (by omega) (by omega) rfl (by omega)

end Go.Proofs.Qxb6630744a

/-
  resp.ParseInt, WHOLE: on a row of bytes it answers 'parse'.
-/
import Derived.Test.Qxb6630744aParseWalk
namespace Go.Proofs.Qxb6630744a
open Go.RowKit
set_option linter.unusedSimpArgs false
set_option linter.unusedVariables false

/-- The value of the first k digits, by their places. -/
def vz (z : Nat → Int) : Nat → Nat
  | 0 => 0
  | k + 1 => vz z k * 10 + (z k - 48).toNat
theorem vz_lt (z : Nat → Int) : ∀ k, (∀ j, j < k → 48 ≤ z j ∧ z j ≤ 57) → vz z k < 10 ^ k := by
  intro k
  induction k with
  | zero => intro _; simp [vz]
  | succ k ih =>
    intro h
    have h1 := ih (fun j hj => h j (by omega))
    have h2 := h k (by omega)
    show vz z k * 10 + (z k - 48).toNat < 10 ^ (k + 1)
    rw [Nat.pow_succ]
    omega
theorem vz_take (l : List Int) : ∀ k, k ≤ l.length → vz (fun i => l.getD i 0) k = val (l.take k) := by
  intro k
  induction k with
  | zero => intro _; rfl
  | succ k ih =>
    intro h
    have hk : k < l.length := by omega
    rw [List.take_succ_eq_append_getElem hk, val_snoc, ← ih (by omega)]
    show vz _ k * 10 + (l.getD k 0 - 48).toNat = _
    simp [List.getD, hk]
theorem vz_all (l : List Int) : vz (fun i => l.getD i 0) l.length = val l := by
  rw [vz_take l l.length (Nat.le_refl _), List.take_length]
theorem all_iff (l : List Int) : l.all dig = true ↔ ∀ j, j < l.length → 48 ≤ l.getD j 0 ∧ l.getD j 0 ≤ 57 := by
  rw [List.all_eq_true]
  constructor
  · intro h j hj
    have := h l[j] (List.getElem_mem hj)
    rw [dig_iff] at this
    simpa [List.getD, hj] using this
  · intro h c hc
    obtain ⟨i, hi, rfl⟩ := List.getElem_of_mem hc
    rw [dig_iff]
    simpa [List.getD, hi] using h i hi

theorem ret_parse {o p : Option Int} (h : p = o) {w w' : World} {R : Prop} : (Ending.returned (.tuple #[.int .i64 (p.getD 0), .bool p.isSome]) = .returned (.tuple #[.int .i64 (o.getD 0), .bool o.isSome])) := by rw [h]

theorem not_dig_all (l : List Int) (k : Nat) (hk : k < l.length) (h : ¬ (48 ≤ l.getD k 0 ∧ l.getD k 0 ≤ 57)) : ¬ l.all dig = true :=
  fun hh => h ((all_iff l).1 hh k hk)

theorem head_getD (l : List Int) (h : 0 < l.length) : l.head? = some (l.getD 0 0) := by
  cases l with
  | nil => simp at h
  | cons a t => rfl

/-- The row without its first byte. -/
theorem Row.tail {w : World} {b off : Nat} {c : Int} {l : List Int} (h : Row w b off (c :: l)) : ∀ i, i < l.length → w.cell? ⟨b, off + 1 + i, none⟩ = some (.int .u8 (l.getD i 0)) := by
  intro i hi
  have := h.1 (i + 1) (by simp; omega)
  rw [show off + 1 + i = off + (i + 1) by omega, this]
  rfl

theorem parseP_row (b off cap : Nat) (l : List Int) (w : World) (hrow : Row w b off l) (hne : l ≠ []) (h45 : l.head? ≠ some 45) (hcap : l.length ≤ cap) (hm : cap ≤ maxLen) :
    Calls Try.prog 7 #[.slice (some ⟨b, off, none⟩) l.length cap] w fun e w' => e = .returned (.tuple #[.int .i64 ((parse l).getD 0), .bool (parse l).isSome]) ∧ w' = w := by
  have hpos : 0 < l.length := List.length_pos_iff.2 hne
  have hc0 := hrow.1 0 hpos
  rw [Nat.add_zero] at hc0
  rw [head_getD l hpos] at h45
  have h45' : (l.getD 0 0 == 45) = false := by rw [beq_eq_false_iff_ne]; exact fun h => h45 (by rw [h])
  have hp : parse l = parseP l := by rw [parse, if_neg (by rw [head_getD l hpos]; exact h45)]
  rw [hp]
  by_cases hl : 19 < l.length
  · have : parseP l = none := by rw [parseP, if_pos (.inr (.inl hl))]
    rw [this]
    exact pos_long b off cap l.length _ w hc0 hl h45' hcap hm
  · by_cases hz : l.head? = some 48 ∧ 1 < l.length
    · have : parseP l = none := by rw [parseP, if_pos (.inr (.inr hz))]
      rw [this]
      refine pos_zero b off cap l.length _ w hc0 hz.2 (by omega) h45' ?_ hcap hm
      have := hz.1
      rw [head_getD l hpos] at this
      rw [beq_iff_eq]
      exact Option.some.inj this
    · have hg : ¬ (l = [] ∨ 19 < l.length ∨ (l.head? = some 48 ∧ 1 < l.length)) := fun h => h.elim hne (fun h => h.elim hl hz)
      refine pos_core b off cap l.length (fun i => l.getD i 0) (vz (fun i => l.getD i 0)) w _ _ hrow.1 (getD_bd hrow.2) (by omega) (by omega) h45' ?_ hcap hm rfl (fun _ => rfl) (vz_lt _) ?_ ?_ ?_
      · by_cases h48 : l.getD 0 0 = 48
        · right
          refine ⟨by simpa using h48, ?_⟩
          apply Classical.byContradiction
          intro hn
          exact hz ⟨by rw [head_getD l hpos, h48], by omega⟩
        · left; simpa using h48
      · intro h1 h2
        rw [vz_all] at h2 ⊢
        rw [parseP, if_neg hg, if_pos ⟨(all_iff l).2 h1, h2⟩]
        exact ⟨rfl, rfl⟩
      · intro k hk h1
        rw [parseP, if_neg hg, if_neg (fun h => not_dig_all l k hk h1 h.1)]
        exact ⟨rfl, rfl⟩
      · intro h1 h2
        rw [vz_all] at h2
        rw [parseP, if_neg hg, if_neg (fun h => by omega)]
        exact ⟨rfl, rfl⟩

theorem parseN_row (b off cap : Nat) (l : List Int) (w : World) (hrow : Row w b off (45 :: l)) (hcap : l.length + 1 ≤ cap) (hm : cap ≤ maxLen) :
    Calls Try.prog 7 #[.slice (some ⟨b, off, none⟩) (l.length + 1) cap] w fun e w' => e = .returned (.tuple #[.int .i64 ((parse (45 :: l)).getD 0), .bool (parse (45 :: l)).isSome]) ∧ w' = w := by
  have hy : w.cell? ⟨b, off, none⟩ = some (.int .u8 45) := by have := hrow.1 0 (by simp); rwa [Nat.add_zero] at this
  have hp : parse (45 :: l) = parseN l := by rw [parse, if_pos (show ((45 : Int) :: l).head? = some 45 from rfl)]; rfl
  rw [hp]
  by_cases hne : l = []
  · have : parseN l = none := by rw [parseN, if_pos (.inl hne)]
    rw [this]
    subst hne
    exact neg_lone b off cap 45 w hy rfl hcap hm
  · have hpos : 0 < l.length := List.length_pos_iff.2 hne
    have hz0 : w.cell? ⟨b, off + 1, none⟩ = some (.int .u8 (l.getD 0 0)) := by have := hrow.tail 0 hpos; rwa [Nat.add_zero] at this
    by_cases hl : 19 < l.length
    · have : parseN l = none := by rw [parseN, if_pos (.inr (.inl hl))]
      rw [this]
      exact neg_long b off cap l.length 45 w hy hl rfl hcap hm
    · by_cases hz : l.head? = some 48
      · have : parseN l = none := by rw [parseN, if_pos (.inr (.inr hz))]
        rw [this]
        refine neg_zero b off cap l.length 45 (l.getD 0 0) w hy hz0 (by omega) (by omega) rfl ?_ hcap hm
        rw [head_getD l hpos] at hz
        rw [beq_iff_eq]
        exact Option.some.inj hz
      · have hg : ¬ (l = [] ∨ 19 < l.length ∨ l.head? = some 48) := fun h => h.elim hne (fun h => h.elim hl hz)
        refine neg_core b off cap l.length 45 (fun i => l.getD i 0) (vz (fun i => l.getD i 0)) w _ _ hy rfl hrow.tail (getD_bd (fun c hc => hrow.2 c (List.mem_cons_of_mem _ hc))) (by omega) (by omega) ?_ hcap hm rfl (fun _ => rfl) (vz_lt _) ?_ ?_ ?_
        · rw [beq_eq_false_iff_ne]
          intro h
          exact hz (by rw [head_getD l hpos]; exact congrArg some h)
        · intro h1 h2
          rw [vz_all] at h2 ⊢
          rw [parseN, if_neg hg, if_pos ⟨(all_iff l).2 h1, h2⟩]
          exact ⟨rfl, rfl⟩
        · intro k hk h1
          rw [parseN, if_neg hg, if_neg (fun h => not_dig_all l k hk h1 h.1)]
          exact ⟨rfl, rfl⟩
        · intro h1 h2
          rw [vz_all] at h2
          rw [parseN, if_neg hg, if_neg (fun h => by omega)]
          exact ⟨rfl, rfl⟩

/-- ParseInt on a row of bytes. -/
theorem parse_row (b off cap n : Nat) (l : List Int) (w : World) (hn : n = l.length) (hrow : Row w b off l) (hcap : n ≤ cap) (hm : cap ≤ maxLen) :
    Calls Try.prog 7 #[.slice (some ⟨b, off, none⟩) n cap] w fun e w' => e = .returned (.tuple #[.int .i64 ((parse l).getD 0), .bool (parse l).isSome]) ∧ w' = w := by
  subst hn
  cases l with
  | nil =>
    have : parse [] = none := by rw [parse, if_neg (by simp), parseP, if_pos (.inl rfl)]
    rw [this]
    exact parse_nil _ cap w
  | cons c l =>
    by_cases h : c = 45
    · subst h
      exact parseN_row b off cap l w hrow hcap hm
    · exact parseP_row b off cap (c :: l) w hrow (by simp) (by simpa using h) hcap hm

end Go.Proofs.Qxb6630744a

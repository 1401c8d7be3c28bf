/-
  THE PLAIN PART OF SEAT b6630744a: decimal digits, the value of a row of digits, the canonical text of a number, and what ParseInt and the model answer. Bytes stand as integers.
-/
import Derived.WalkKit
namespace Go.Proofs.Qxb6630744a

def dig (c : Int) : Bool := decide (48 ≤ c) && decide (c ≤ 57)
theorem dig_iff (c : Int) : dig c = true ↔ 48 ≤ c ∧ c ≤ 57 := by simp [dig]
theorem dig_no (c : Int) : dig c = false ↔ ¬ (48 ≤ c ∧ c ≤ 57) := by rw [← dig_iff]; simp

/-- The value of a row of digits, over what stands ahead of it. -/
def valF : Nat → List Int → Nat
  | n, [] => n
  | n, c :: l => valF (n * 10 + (c - 48).toNat) l
def val (l : List Int) : Nat := valF 0 l

theorem valF_append (l m : List Int) : ∀ n, valF n (l ++ m) = valF (valF n l) m := by
  induction l with
  | nil => intro n; rfl
  | cons c l ih => intro n; exact ih _
theorem val_snoc (l : List Int) (c : Int) : val (l ++ [c]) = val l * 10 + (c - 48).toNat := by
  unfold val; rw [valF_append]; rfl

/-- The digits of a number. -/
def digs (n : Nat) : List Int := if h : n < 10 then [48 + (n : Int)] else digs (n / 10) ++ [48 + ((n % 10 : Nat) : Int)]

theorem digs_small {n : Nat} (h : n < 10) : digs n = [48 + (n : Int)] := by rw [digs, dif_pos h]
theorem digs_big {n : Nat} (h : ¬ n < 10) : digs n = digs (n / 10) ++ [48 + ((n % 10 : Nat) : Int)] := by rw [digs, dif_neg h]

/-- A row of digits with no leading zero, or the lone zero. -/
def Canon (l : List Int) : Prop := l ≠ [] ∧ l.all dig = true ∧ (l.head? ≠ some 48 ∨ l = [48])

theorem all_snoc (l : List Int) (c : Int) : (l ++ [c]).all dig = (l.all dig && dig c) := by simp

theorem digs_props : ∀ (f n : Nat), n ≤ f → digs n ≠ [] ∧ (digs n).all dig = true ∧ val (digs n) = n ∧ (n ≠ 0 → (digs n).head? ≠ some 48) := by
  intro f
  induction f with
  | zero =>
    intro n hn
    obtain rfl : n = 0 := by omega
    rw [digs_small (by omega)]
    exact ⟨by simp, by decide, by decide, fun h => absurd rfl h⟩
  | succ f ih =>
    intro n hn
    by_cases h : n < 10
    · rw [digs_small h]
      refine ⟨by simp, ?_, ?_, ?_⟩
      · simp [dig_iff]; omega
      · simp [val, valF]; omega
      · intro h0; simp; omega
    · rw [digs_big h]
      obtain ⟨h1, h2, h3, h4⟩ := ih (n / 10) (by omega)
      refine ⟨by simp, ?_, ?_, ?_⟩
      · rw [all_snoc, h2, Bool.true_and, dig_iff]; omega
      · rw [val_snoc, h3]; omega
      · intro _
        have := h4 (by omega)
        cases hd : digs (n / 10) with
        | nil => exact absurd hd h1
        | cons a t => rw [hd] at this; simpa using this

theorem digs_ne (n : Nat) : digs n ≠ [] := (digs_props n n (Nat.le_refl _)).1
theorem digs_all (n : Nat) : (digs n).all dig = true := (digs_props n n (Nat.le_refl _)).2.1
theorem val_digs (n : Nat) : val (digs n) = n := (digs_props n n (Nat.le_refl _)).2.2.1
theorem digs_head (n : Nat) (h : n ≠ 0) : (digs n).head? ≠ some 48 := (digs_props n n (Nat.le_refl _)).2.2.2 h
theorem digs_zero : digs 0 = [48] := digs_small (by omega)

/-- A canonical row is the digits of its value. (By the row's end.) -/
theorem digs_val : ∀ (k : Nat) (l : List Int), l.length = k → Canon l → digs (val l) = l ∧ (l ≠ [48] → 0 < val l) := by
  intro k
  induction k with
  | zero =>
    intro l hl hc
    exact absurd (List.eq_nil_of_length_eq_zero hl) hc.1
  | succ k ih =>
    intro l hl hc
    obtain ⟨h1, h2, h3⟩ := hc
    obtain ⟨m, c, rfl⟩ : ∃ m c, l = m ++ [c] := ⟨l.dropLast, l.getLast h1, (List.dropLast_concat_getLast h1).symm⟩
    rw [all_snoc, Bool.and_eq_true, dig_iff] at h2
    have hm : m.length = k := by simpa using hl
    rw [val_snoc]
    by_cases e : m = []
    · subst e
      have : val [] = 0 := rfl
      rw [this, digs_small (by omega)]
      refine ⟨by simp; omega, ?_⟩
      intro hne
      have : c ≠ 48 := fun hc => hne (by simp [hc])
      omega
    · have hcm : m.head? ≠ some 48 := by
        rcases h3 with h3 | h3
        · cases m with
          | nil => exact absurd rfl e
          | cons a t => simpa using h3
        · have := congrArg List.length h3
          simp at this
          exact absurd this e
      obtain ⟨i1, i2⟩ := ih m hm ⟨e, h2.1, .inl hcm⟩
      have hp : 0 < val m := i2 (fun hh => by rw [hh] at hcm; simp at hcm)
      refine ⟨?_, fun _ => by omega⟩
      rw [digs_big (by omega)]
      have e1 : (val m * 10 + (c - 48).toNat) / 10 = val m := by omega
      have e2 : (val m * 10 + (c - 48).toNat) % 10 = (c - 48).toNat := by omega
      rw [e1, e2, i1]
      congr 2
      omega

theorem valF_lt (l : List Int) : ∀ n, l.all dig = true → valF n l < (n + 1) * 10 ^ l.length := by
  induction l with
  | nil => intro n _; simp [valF]
  | cons c l ih =>
    intro n h
    simp only [List.all_cons, Bool.and_eq_true, dig_iff] at h
    have := ih (n * 10 + (c - 48).toNat) h.2
    have h2 : (n * 10 + (c - 48).toNat + 1) * 10 ^ l.length ≤ (n + 1) * 10 * 10 ^ l.length := Nat.mul_le_mul_right _ (by omega)
    simp only [valF, List.length_cons, Nat.pow_succ]
    calc valF (n * 10 + (c - 48).toNat) l < (n * 10 + (c - 48).toNat + 1) * 10 ^ l.length := this
      _ ≤ (n + 1) * 10 * 10 ^ l.length := h2
      _ = (n + 1) * (10 ^ l.length * 10) := by rw [Nat.mul_assoc, Nat.mul_comm 10]
theorem val_lt (l : List Int) (h : l.all dig = true) : val l < 10 ^ l.length := by
  have := valF_lt l 0 h
  rw [Nat.zero_add, Nat.one_mul] at this
  exact this
theorem valF_ge (l : List Int) : ∀ n, n * 10 ^ l.length ≤ valF n l := by
  induction l with
  | nil => intro n; simp [valF]
  | cons c l ih =>
    intro n
    have := ih (n * 10 + (c - 48).toNat)
    simp only [valF, List.length_cons, Nat.pow_succ]
    calc n * (10 ^ l.length * 10) = n * 10 * 10 ^ l.length := by rw [Nat.mul_assoc, Nat.mul_comm 10]
      _ ≤ (n * 10 + (c - 48).toNat) * 10 ^ l.length := Nat.mul_le_mul_right _ (by omega)
      _ ≤ _ := this
/-- A row of twenty digits or more with no leading zero is at least 10^19. -/
theorem val_long (l : List Int) (h : l.all dig = true) (hh : l.head? ≠ some 48) (hl : 20 ≤ l.length) : 10 ^ 19 ≤ val l := by
  cases l with
  | nil => simp at hl
  | cons c l =>
    simp only [List.all_cons, Bool.and_eq_true, dig_iff] at h
    have hc : c ≠ 48 := by simpa using hh
    have h1 := valF_ge l (0 * 10 + (c - 48).toNat)
    have h2 : 10 ^ 19 ≤ 10 ^ l.length := Nat.pow_le_pow_right (by omega) (by simp at hl; omega)
    have h3 : 1 * 10 ^ l.length ≤ (0 * 10 + (c - 48).toNat) * 10 ^ l.length := Nat.mul_le_mul_right _ (by omega)
    show 10 ^ 19 ≤ valF (0 * 10 + (c - 48).toNat) l
    omega

/-- The canonical decimal text. -/
def text (v : Int) : List Int := if v < 0 then 45 :: digs v.natAbs else digs v.natAbs

/-- What ParseInt answers behind a minus sign, and without one. -/
def parseN (ds : List Int) : Option Int :=
  if ds = [] ∨ 19 < ds.length ∨ ds.head? = some 48 then none
  else if ds.all dig = true ∧ val ds ≤ 9223372036854775808 then some (-(val ds : Int)) else none
def parseP (ds : List Int) : Option Int :=
  if ds = [] ∨ 19 < ds.length ∨ (ds.head? = some 48 ∧ 1 < ds.length) then none
  else if ds.all dig = true ∧ val ds ≤ 9223372036854775807 then some (val ds : Int) else none
def parse (l : List Int) : Option Int := if l.head? = some 45 then parseN l.tail else parseP l

/-- What the model answers. -/
def modelN (ds : List Int) : Option Int :=
  if ds ≠ [] ∧ ds.all dig = true ∧ val ds ≤ 9223372036854775808 ∧ text (-(val ds : Int)) = 45 :: ds then some (-(val ds : Int)) else none
def modelP (ds : List Int) : Option Int :=
  if ds ≠ [] ∧ ds.all dig = true ∧ val ds ≤ 9223372036854775807 ∧ text (val ds : Int) = ds then some (val ds : Int) else none
def model (l : List Int) : Option Int := if l.head? = some 45 then modelN l.tail else modelP l

theorem text_nonneg (n : Nat) : text (n : Int) = digs n := by
  unfold text; rw [if_neg (by omega)]; rfl
theorem text_neg (n : Nat) (h : 0 < n) : text (-(n : Int)) = 45 :: digs n := by
  unfold text; rw [if_pos (by omega)]; simp

theorem canon_of (ds : List Int) (h0 : ds ≠ []) (h1 : ds.all dig = true) (h2 : ¬ (ds.head? = some 48 ∧ 1 < ds.length)) : Canon ds := by
  refine ⟨h0, h1, ?_⟩
  by_cases h : ds.head? = some 48
  · cases ds with
    | nil => exact absurd rfl h0
    | cons a t =>
      cases t with
      | nil => right; simpa using h
      | cons b t => exact absurd ⟨h, by simp⟩ h2
  · exact .inl h

theorem parseP_model (ds : List Int) : parseP ds = modelP ds := by
  unfold parseP modelP
  by_cases h0 : ds = []
  · simp [h0]
  · by_cases h1 : ds.all dig = true ∧ val ds ≤ 9223372036854775807
    · obtain ⟨hd, hv⟩ := h1
      by_cases h2 : ds.head? = some 48 ∧ 1 < ds.length
      · rw [if_pos (.inr (.inr h2)), if_neg]
        rintro ⟨_, _, _, ht⟩
        rw [text_nonneg] at ht
        by_cases hz : val ds = 0
        · rw [hz, digs_zero] at ht
          rw [← ht] at h2
          simp at h2
        · have := digs_head _ hz
          rw [ht] at this
          exact this h2.1
      · have hc := canon_of ds h0 hd h2
        obtain ⟨e, _⟩ := digs_val _ ds rfl hc
        have hl : ¬ 19 < ds.length := by
          intro hl
          rcases hc.2.2 with h | h
          · have := val_long ds hd h (by omega); omega
          · rw [h] at hl; simp at hl
        rw [if_neg (fun h => h.elim h0 (fun h => h.elim hl h2)), if_pos ⟨hd, hv⟩, if_pos ⟨h0, hd, hv, by rw [text_nonneg]; exact e⟩]
    · rw [if_neg (c := _ ∧ _ ∧ _ ∧ _) (fun h => h1 ⟨h.2.1, h.2.2.1⟩)]
      split
      · rfl
      · rfl

theorem parseN_model (ds : List Int) : parseN ds = modelN ds := by
  unfold parseN modelN
  by_cases h0 : ds = []
  · simp [h0]
  · by_cases h1 : ds.all dig = true ∧ val ds ≤ 9223372036854775808
    · obtain ⟨hd, hv⟩ := h1
      by_cases h2 : ds.head? = some 48
      · rw [if_pos (.inr (.inr h2)), if_neg]
        rintro ⟨_, _, _, ht⟩
        by_cases hz : val ds = 0
        · rw [hz] at ht
          have e : text (-((0 : Nat) : Int)) = [48] := by simp [text, digs_zero]
          rw [e] at ht
          simp at ht
        · rw [text_neg _ (by omega)] at ht
          have := digs_head _ hz
          rw [(List.cons.inj ht).2] at this
          exact this h2
      · have hc : Canon ds := ⟨h0, hd, .inl h2⟩
        obtain ⟨e, hp⟩ := digs_val _ ds rfl hc
        have hp : 0 < val ds := hp (fun h => by rw [h] at h2; simp at h2)
        have hl : ¬ 19 < ds.length := by
          intro hl
          have := val_long ds hd h2 (by omega)
          omega
        rw [if_neg (fun h => h.elim h0 (fun h => h.elim hl h2)), if_pos ⟨hd, hv⟩, if_pos ⟨h0, hd, hv, by rw [text_neg _ hp, e]⟩]
    · rw [if_neg (c := _ ∧ _ ∧ _ ∧ _) (fun h => h1 ⟨h.2.1, h.2.2.1⟩)]
      split
      · rfl
      · rfl

theorem parse_model (l : List Int) : parse l = model l := by
  unfold parse model; rw [parseN_model, parseP_model]

theorem digs_head45 (n : Nat) : (digs n).head? ≠ some 45 := by
  have h1 := digs_ne n
  have h2 := digs_all n
  cases h : digs n with
  | nil => exact absurd h h1
  | cons a t =>
    rw [h] at h2
    simp only [List.all_cons, Bool.and_eq_true, dig_iff] at h2
    simp
    omega

theorem parse_digs (n : Nat) (h : n ≤ 9223372036854775807) : parse (digs n) = some (n : Int) := by
  rw [parse_model, model, if_neg (digs_head45 n), modelP]
  rw [if_pos ⟨digs_ne n, digs_all n, by rw [val_digs]; exact h, by rw [val_digs, text_nonneg]⟩, val_digs]
theorem parse_neg (n : Nat) (h0 : 0 < n) (h : n ≤ 9223372036854775808) : parse (45 :: digs n) = some (-(n : Int)) := by
  rw [parse_model, model, if_pos (show (45 :: digs n).head? = some 45 from rfl), modelN]
  rw [if_pos ⟨digs_ne n, digs_all n, by rw [List.tail_cons, val_digs]; exact h, by rw [List.tail_cons, val_digs, text_neg _ h0]⟩, List.tail_cons, val_digs]
theorem parse_over (n : Nat) (h : 9223372036854775807 < n) : parse (digs n) = none := by
  rw [parse_model, model, if_neg (digs_head45 n), modelP]
  rw [if_neg (fun hh => by have := hh.2.2.1; rw [val_digs] at this; omega)]
theorem parse_negZero : parse [45, 48] = none := by
  rw [parse, if_pos (show [(45 : Int), 48].head? = some 45 from rfl), parseN, if_pos (.inr (.inr rfl))]

end Go.Proofs.Qxb6630744a

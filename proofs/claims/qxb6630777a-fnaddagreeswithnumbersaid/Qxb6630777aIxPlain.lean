/-
  THE PLAIN PART OF SEAT b6630777a: names numbered in the order in which they were added; the map that a long index keeps, as a datum.
-/
import Derived.WalkKit
import Derived.Maps.OwnSet
namespace Go.Proofs.Qxb6630777a

/-- The place of s in l (its length where s is not there). -/
def idx : List ByteArray → ByteArray → Nat
  | [], _ => 0
  | x :: l, s => if x = s then 0 else idx l s + 1

theorem idx_le (l : List ByteArray) (s : ByteArray) : idx l s ≤ l.length := by
  induction l with
  | nil => exact Nat.le_refl _
  | cons x l ih => unfold idx; split <;> simp; omega
theorem idx_lt {l : List ByteArray} {s : ByteArray} (h : s ∈ l) : idx l s < l.length := by
  induction l with
  | nil => cases h
  | cons x l ih =>
    unfold idx
    split
    · simp
    · rename_i hne
      have := ih ((List.mem_cons.1 h).resolve_left (fun e => hne e.symm))
      simp; omega
theorem getD_idx {l : List ByteArray} {s : ByteArray} (h : s ∈ l) : l.getD (idx l s) ByteArray.empty = s := by
  induction l with
  | nil => cases h
  | cons x l ih =>
    unfold idx
    split
    · rename_i e; simpa using e
    · rename_i hne
      have := ih ((List.mem_cons.1 h).resolve_left (fun e => hne e.symm))
      simpa using this
theorem idx_not {l : List ByteArray} {s : ByteArray} (h : s ∉ l) : idx l s = l.length := by
  induction l with
  | nil => rfl
  | cons x l ih =>
    unfold idx
    rw [if_neg (fun e => h (by simp [e]))]
    rw [ih (fun hm => h (List.mem_cons_of_mem _ hm))]
    simp
theorem idx_append {l m : List ByteArray} {s : ByteArray} (h : s ∈ l) : idx (l ++ m) s = idx l s := by
  induction l with
  | nil => cases h
  | cons x l ih =>
    simp only [List.cons_append, idx]
    split
    · rfl
    · rename_i hne
      rw [ih ((List.mem_cons.1 h).resolve_left (fun e => hne e.symm))]
/-- The first place at which s stands. -/
theorem idx_first {l : List ByteArray} {s : ByteArray} {i : Nat} (hi : i < l.length) (he : l.getD i ByteArray.empty = s) (hb : ∀ j, j < i → l.getD j ByteArray.empty ≠ s) : idx l s = i ∧ s ∈ l := by
  induction l generalizing i with
  | nil => simp at hi
  | cons x l ih =>
    cases i with
    | zero =>
      have e : x = s := by simpa using he
      unfold idx
      rw [if_pos e]
      exact ⟨rfl, by simp [e]⟩
    | succ i =>
      have h0 : x ≠ s := by have := hb 0 (by omega); simpa using this
      unfold idx
      rw [if_neg h0]
      obtain ⟨h1, h2⟩ := ih (i := i) (by simpa using hi) (by simpa using he) (fun j hj => by have := hb (j + 1) (by omega); simpa using this)
      exact ⟨by rw [h1], List.mem_cons_of_mem _ h2⟩
theorem not_mem_of {l : List ByteArray} {s : ByteArray} (hb : ∀ j, j < l.length → l.getD j ByteArray.empty ≠ s) : s ∉ l := by
  intro h
  exact hb _ (idx_lt h) (getD_idx h)
theorem getD_mem {l : List ByteArray} {i : Nat} (hi : i < l.length) : l.getD i ByteArray.empty ∈ l := by
  have : l.getD i ByteArray.empty = l[i] := by simp [List.getD, hi]
  rw [this]; exact List.getElem_mem hi
theorem idx_getD {l : List ByteArray} (hn : l.Nodup) {i : Nat} (hi : i < l.length) : idx l (l.getD i ByteArray.empty) = i := by
  refine (idx_first hi rfl ?_).1
  intro j hj e
  have h1 : l.getD i ByteArray.empty = l[i] := by simp [List.getD, hi]
  have h2 : l.getD j ByteArray.empty = l[j] := by simp [List.getD, show j < l.length by omega]
  rw [h1, h2] at e
  have := (List.getElem_inj hn).1 e
  omega

/-- Is s there? -/
def memB (l : List ByteArray) (s : ByteArray) : Bool := decide (idx l s < l.length)
theorem memB_iff {l : List ByteArray} {s : ByteArray} : memB l s = true ↔ s ∈ l := by
  unfold memB
  rw [decide_eq_true_eq]
  constructor
  · intro h
    apply Classical.byContradiction
    intro hn
    rw [idx_not hn] at h
    omega
  · exact idx_lt
theorem memB_no {l : List ByteArray} {s : ByteArray} : memB l s = false ↔ s ∉ l := by rw [← memB_iff]; simp

/-- One name more. -/
def addN (l : List ByteArray) (s : ByteArray) : List ByteArray := if memB l s = true then l else l ++ [s]
theorem addN_yes {l : List ByteArray} {s : ByteArray} (h : s ∈ l) : addN l s = l := by unfold addN; rw [if_pos (memB_iff.2 h)]
theorem addN_no {l : List ByteArray} {s : ByteArray} (h : s ∉ l) : addN l s = l ++ [s] := by unfold addN; rw [if_neg (fun e => h (memB_iff.1 e))]
theorem mem_addN {l : List ByteArray} {s x : ByteArray} : x ∈ addN l s ↔ x ∈ l ∨ x = s := by
  by_cases h : s ∈ l
  · rw [addN_yes h]
    constructor
    · exact .inl
    · rintro (h1 | rfl)
      · exact h1
      · exact h
  · rw [addN_no h]; simp
theorem nodup_addN {l : List ByteArray} (h : l.Nodup) (s : ByteArray) : (addN l s).Nodup := by
  by_cases hn : s ∈ l
  · rw [addN_yes hn]; exact h
  · rw [addN_no hn, List.nodup_append]
    refine ⟨h, by simp, ?_⟩
    intro a ha b hb e
    simp at hb
    exact hn (by rw [← hb, ← e]; exact ha)
theorem idx_addN {l : List ByteArray} {s x : ByteArray} (h : x ∈ l) : idx (addN l s) x = idx l x := by
  by_cases hn : s ∈ l
  · rw [addN_yes hn]
  · rw [addN_no hn]; exact idx_append h
theorem idx_new {l : List ByteArray} {s : ByteArray} (h : s ∉ l) : idx (addN l s) s = l.length := by
  rw [addN_no h]
  refine (idx_first (i := l.length) (by simp) (by simp) ?_).1
  intro j hj e
  have : (l ++ [s]).getD j ByteArray.empty = l.getD j ByteArray.empty := by simp [List.getD, List.getElem?_append, hj]
  rw [this] at e
  exact h (by rw [← e]; exact getD_mem hj)
theorem length_addN_le (l : List ByteArray) (s : ByteArray) : (addN l s).length ≤ l.length + 1 := by
  unfold addN; split <;> simp

/-- The different names of l, in the order of their first places. -/
def ded : List ByteArray → List ByteArray := fun l => l.foldl addN []
theorem ded_snoc (l : List ByteArray) (s : ByteArray) : ded (l ++ [s]) = addN (ded l) s := by simp [ded, List.foldl_append]
theorem mem_fold (l : List ByteArray) : ∀ (m : List ByteArray) (x : ByteArray), x ∈ l.foldl addN m ↔ x ∈ m ∨ x ∈ l := by
  induction l with
  | nil => intro m x; simp
  | cons s l ih =>
    intro m x
    rw [List.foldl_cons, ih, mem_addN]
    simp only [List.mem_cons]
    constructor
    · rintro ((h | h) | h)
      · exact .inl h
      · exact .inr (.inl h)
      · exact .inr (.inr h)
    · rintro (h | h | h)
      · exact .inl (.inl h)
      · exact .inl (.inr h)
      · exact .inr h
theorem mem_ded {l : List ByteArray} {x : ByteArray} : x ∈ ded l ↔ x ∈ l := by unfold ded; rw [mem_fold]; simp
theorem nodup_fold (l : List ByteArray) : ∀ m : List ByteArray, m.Nodup → (l.foldl addN m).Nodup := by
  induction l with
  | nil => intro m h; exact h
  | cons s l ih => intro m h; exact ih _ (nodup_addN h s)
theorem nodup_ded (l : List ByteArray) : (ded l).Nodup := nodup_fold l [] List.nodup_nil
theorem idx_fold (l : List ByteArray) : ∀ (m : List ByteArray) (x : ByteArray), x ∈ m → idx (l.foldl addN m) x = idx m x := by
  induction l with
  | nil => intro m x _; rfl
  | cons s l ih => intro m x h; rw [List.foldl_cons, ih _ _ (mem_addN.2 (.inl h)), idx_addN h]
theorem idx_ded {l m : List ByteArray} {x : ByteArray} (h : x ∈ l) : idx (ded (l ++ m)) x = idx (ded l) x := by
  unfold ded
  rw [List.foldl_append]
  exact idx_fold m _ x (mem_ded.2 h)
theorem length_fold (l : List ByteArray) : ∀ m : List ByteArray, (l.foldl addN m).length ≤ m.length + l.length := by
  induction l with
  | nil => intro m; simp
  | cons s l ih =>
    intro m
    have h := ih (addN m s)
    have h2 := length_addN_le m s
    simp only [List.foldl_cons, List.length_cons]
    omega
theorem length_ded (l : List ByteArray) : (ded l).length ≤ l.length := by have := length_fold l []; simpa [ded] using this
theorem take_snoc (l : List ByteArray) (k : Nat) (h : k < l.length) : l.take (k + 1) = l.take k ++ [l.getD k ByteArray.empty] := by
  rw [List.take_succ_eq_append_getElem h]; simp [List.getD, h]
theorem ded_take (l : List ByteArray) (k : Nat) (h : k < l.length) : ded (l.take (k + 1)) = addN (ded (l.take k)) (l.getD k ByteArray.empty) := by
  rw [take_snoc l k h, ded_snoc]
theorem idx_ded_take (l : List ByteArray) (k : Nat) (h : k < l.length) : idx (ded (l.take (k + 1))) (l.getD k ByteArray.empty) = idx (ded l) (l.getD k ByteArray.empty) := by
  have hm : l.getD k ByteArray.empty ∈ l.take (k + 1) := by rw [take_snoc l k h]; simp
  have := idx_ded (m := l.drop (k + 1)) hm
  rw [List.take_append_drop] at this
  exact this.symm

/-! ### The map that a long index keeps, as a datum -/
open Go.Maps

def key (s : ByteArray) : Lit := .string s.data.toList
theorem key_ne {a b : ByteArray} (h : a ≠ b) : key a ≠ key b := by
  intro e
  unfold key at e
  exact h (Go.WideShapes.bytes_inj (by simpa using e))

/-- The first i names, each at its number. -/
def dm (l : List ByteArray) : Nat → DataW Unit
  | 0 => .map []
  | i + 1 => (dm l i).put (key (l.getD i ByteArray.empty)) (.lit (.int .i64 (i : Int)))

theorem isKey (s : ByteArray) : Go.WideAt.IsKeyLit (key s) := by
  first | exact trivial | exact ⟨_, rfl⟩ | simp [Go.WideAt.IsKeyLit, key]

theorem isMap_dm (l : List ByteArray) : ∀ i, IsMap (dm l i)
  | 0 => isMap_empty
  | i + 1 => (isMap_dm l i).put _ _
theorem tidy_dm (l : List ByteArray) : ∀ i, Tidy (dm l i)
  | 0 => tidy_empty
  | i + 1 => (tidy_dm l i).put (isKey _) _

theorem has_dm (l : List ByteArray) (s : ByteArray) : ∀ i, i ≤ l.length → Maps.has (dm l i) (key s) = memB (l.take i) s := by
  intro i
  induction i with
  | zero => intro _; simp [dm, Maps.has, memB, idx]
  | succ i ih =>
    intro hi
    rw [take_snoc l i (by omega)]
    unfold dm
    by_cases e : l.getD i ByteArray.empty = s
    · rw [e, has_put_same (isMap_dm l i) (isKey s)]
      symm
      rw [memB_iff]
      simp
    · rw [has_put_other (key_ne (Ne.symm e)), ih (by omega)]
      have : s ∈ l.take i ++ [l.getD i ByteArray.empty] ↔ s ∈ l.take i := by
        simp only [List.mem_append, List.mem_singleton]
        exact ⟨fun h => h.resolve_right (fun h => e h.symm), .inl⟩
      rw [Bool.eq_iff_iff, memB_iff, memB_iff]
      exact this.symm

theorem at_dm (l : List ByteArray) (hn : l.Nodup) (z : DataW Unit) : ∀ i, i ≤ l.length → ∀ j, j < i → (dm l i).atKey (key (l.getD j ByteArray.empty)) z = .lit (.int .i64 (j : Int)) := by
  intro i
  induction i with
  | zero => intro _ j hj; omega
  | succ i ih =>
    intro hi j hj
    unfold dm
    by_cases e : j = i
    · subst e
      exact atKey_put_same (isMap_dm l j) (isKey _) _ _
    · have hne : l.getD j ByteArray.empty ≠ l.getD i ByteArray.empty := by
        intro h
        have h1 := idx_getD hn (i := j) (by omega)
        have h2 := idx_getD hn (i := i) (by omega)
        rw [h] at h1
        omega
      rw [atKey_put_other (key_ne hne)]
      exact ih (by omega) j (by omega)

theorem not_has_dm (l : List ByteArray) (z : DataW Unit) (s : ByteArray) (i : Nat) (hi : i ≤ l.length) (h : s ∉ l.take i) : (dm l i).atKey (key s) z = z :=
  atKey_of_not_has (by rw [has_dm l s i hi]; exact memB_no.2 h) z

theorem size_dm (l : List ByteArray) (hn : l.Nodup) : ∀ i, i ≤ l.length → Maps.size (dm l i) = i := by
  intro i
  induction i with
  | zero => intro _; rfl
  | succ i ih =>
    intro hi
    unfold dm
    rw [size_put (tidy_dm l i), has_dm l _ i (by omega), ih (by omega)]
    have : l.getD i ByteArray.empty ∉ l.take i := by
      intro h
      obtain ⟨j, hj, e⟩ := List.getElem_of_mem h
      rw [List.length_take] at hj
      rw [List.getElem_take] at e
      have h1 := idx_getD hn (i := j) (by omega)
      have h2 := idx_getD hn (i := i) (by omega)
      have h3 : l.getD j ByteArray.empty = l[j] := by simp [List.getD, show j < l.length by omega]
      rw [h3, e] at h1
      omega
    rw [memB_no.2 this]
    rfl

/-- Names put behind leave the first places as they were. -/
theorem dm_append (l m : List ByteArray) : ∀ i, i ≤ l.length → dm (l ++ m) i = dm l i := by
  intro i
  induction i with
  | zero => intro _; rfl
  | succ i ih =>
    intro hi
    unfold dm
    rw [ih (by omega)]
    have : (l ++ m).getD i ByteArray.empty = l.getD i ByteArray.empty := by simp [List.getD, List.getElem?_append, show i < l.length by omega]
    rw [this]

end Go.Proofs.Qxb6630777a

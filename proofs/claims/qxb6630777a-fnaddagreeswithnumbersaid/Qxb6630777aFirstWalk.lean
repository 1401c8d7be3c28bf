/-
  THE WALK OF FnAddNumbersByFirstOccurrence.
-/
import Derived.Test.Qxb6630777aAdd
import Derived.Deep.QuietTactic
import Derived.BigQuiet
import Derived.Deep.OwnRows
namespace Go.Proofs.Qxb6630777a
open Go.RowKit
set_option linter.unusedSimpArgs false
set_option linter.unusedVariables false

theorem Try.info3 : (Try.prog.info? 3).map (fun i => (i.zero, i.size, i.bytes)) = some (some (.int .i64 0), 1, 8) := by kernel_rfl

/-- It returns one bool or the other, and turns nothing. -/
def Says (e : Ending) (w w' : World) : Prop := ∃ q : Bool, e = .returned (.bool q) ∧ w' = w
theorem says (q : Bool) (w : World) : Says (.returned (.bool q)) w w := ⟨q, rfl, rfl⟩

set_option maxHeartbeats 400000 in
theorem bytes5 (b off n cap : Nat) (x : Nat → ByteArray) (w : World) (hn : n ≤ maxLen) (hx : ∀ i, i < n → w.cell? ⟨b, off + i, none⟩ = some (.string (x i))) :
    Calls Try.prog 5 #[.slice (some ⟨b, off, none⟩) n cap] w fun e w' => Says e w w' := by
  unfold maxLen at hn
  go_enter Try.func5, Try.ntmps5
  go_wp2
  · go_ret
    exact says _ _
  · go_loop [3, 4] (fun t i => ∃ (k : Nat) (z : Int), k ≤ n ∧ i = .int .i64 k ∧ t = .int .i64 z) (fun _ i => n - (intOf i).toNat)
    case atStart => exact ⟨0, _, Nat.zero_le _, rfl, rfl⟩
    case round =>
      obtain ⟨k, z, hk, rfl, rfl⟩ := hrel
      by_cases hlt : k < n
      · have hck := hx k hlt
        go_wp2
        all_goals
          first
            | (go_ret; exact says _ _)
            | (go_round
               case rel => exact ⟨k + 1, _, by omega, by go_num, rfl⟩
               case measure => simp [intOf]; omega)
      · go_wp2
        go_ret
        exact says _ _

theorem IxAt.alloc {w : World} {B p : Nat} {names : List ByteArray} (h : IxAt w B p names) (o : Obj) : IxAt (w.alloc o) B p names := by
  obtain ⟨h1, h2, h3, v, m, h4, h5, h6⟩ := h
  refine ⟨h1, h2, h3, v, m, ?_, h5.alloc o, ?_⟩
  · rw [Below.heap_alloc _ _ _ (Array.getElem?_eq_some_iff.1 h4).1]; exact h4
  · rcases h6 with h | ⟨h, mb, e, hb, ho⟩
    · exact .inl h
    · exact .inr ⟨h, mb, e, hb, ho.alloc o⟩
theorem IxAt.setCell {w : World} {B p : Nat} {names : List ByteArray} (h : IxAt w B p names) {q : Addr} (hq : q.block ≠ p) (hB : q.block < B) (u : Value) : IxAt (w.setCell q u) B p names := by
  obtain ⟨h1, h2, h3, v, m, h4, h5, h6⟩ := h
  refine ⟨h1, h2, h3, v, m, ?_, ownsRow_setCell_below h5 hB u, ?_⟩
  · rw [Below.heap_setCell _ _ _ _ (Ne.symm hq)]; exact h4
  · rcases h6 with h | ⟨h, mb, e, hb, ho⟩
    · exact .inl h
    · exact .inr ⟨h, mb, e, hb, ho.setCell (by omega) u⟩

/-- While the names are added. -/
def LInv (w : World) (X : List ByteArray) (G : Nat → Nat) (k : Nat) (wr : World) : Prop :=
  IxAt wr (w.heap.size + 2) w.heap.size (ded (X.take k)) ∧ wr.rowIs (w.heap.size + 1) 3 X.length (fun j => .int .i64 (if j < k then (G j : Int) else 0)) ∧ Below w.heap.size w wr ∧ w.heap.size + 2 ≤ wr.heap.size

theorem drewN_drewN (w : World) (a b : Nat) : (w.drewN a).drewN b = w.drewN (a + b) := by
  simp [World.drewN, Nat.add_assoc]

theorem linv_drew {w : World} {X : List ByteArray} {G : Nat → Nat} {k : Nat} {wr : World} (h : LInv w X G k wr) (q : Nat) : LInv w X G k (wr.drewN q) :=
  ⟨h.1, h.2.1, below_drewN h.2.2.1 q, h.2.2.2⟩

theorem linv_start (w : World) (X : List ByteArray) (G : Nat → Nat) (n : Nat) (hn : n = X.length) :
    LInv w X G 0 ((w.alloc (.cells #[.slice none 0 0, .map none] 35)).alloc (.cells (madeCells #[.int .i64 0] n) 3)) := by
  subst hn
  refine ⟨(ix_new w _ (by omega)).alloc _, ?_, ((Below.refl _ _).alloc (Nat.le_refl _) _).alloc (by simp) _, by simp⟩
  have h := World.rowIs_made (w.alloc (.cells #[.slice none 0 0, .map none] 35)) (.int .i64 0) X.length 3
  have e : (w.alloc (.cells #[.slice none 0 0, .map none] 35)).heap.size = w.heap.size + 1 := by simp
  rw [e] at h
  exact h.congr (fun i _ => by simp)

theorem linv_add {w wr w3 : World} {X : List ByteArray} {G : Nat → Nat} {k : Nat} (h : LInv w X G k wr) (hk : k < X.length) (hix : IxAt w3 (w.heap.size + 2) w.heap.size (addN (ded (X.take k)) (X.getD k ByteArray.empty)))
    (hkept : Kept (w.heap.size + 2) w.heap.size wr w3) : LInv w X G (k + 1) (w3.setCell ⟨w.heap.size + 1, k, none⟩ (.int .i64 (G k : Int))) := by
  obtain ⟨h1, h2, h3, h4⟩ := h
  refine ⟨?_, ?_, ?_, ?_⟩
  · rw [ded_take X k hk]
    exact hix.setCell (by simp) (by simp) _
  · refine ((h2.of_block (hkept.block (w.heap.size + 1) (by omega) (by omega))).set k _).congr ?_
    intro i _
    show (if i = k then Value.int .i64 (G k : Int) else .int .i64 (if i < k then (G i : Int) else 0)) = .int .i64 (if i < k + 1 then (G i : Int) else 0)
    by_cases e : i = k
    · subst e; rw [if_pos rfl, if_pos (by omega)]
    · rw [if_neg e]
      by_cases e2 : i < k
      · rw [if_pos e2, if_pos (by omega)]
      · rw [if_neg e2, if_neg (by omega)]
  · have hb : Below w.heap.size w w3 := h3.trans ⟨hkept.os, hkept.tape, hkept.output, hkept.size, fun i hi => hkept.block i (by omega) (by omega)⟩
    exact hb.setCell (by simp) _
  · rw [size_setCell]
    exact Nat.le_trans h4 hkept.size

theorem ix_shape {w : World} {B p : Nat} {names : List ByteArray} {N : Nat} (h : IxAt w B p names) (hN : N = names.length) (h1 : 1 ≤ N) :
    ∃ g cap m, w.heap[p]? = some (.cells #[.slice (some ⟨g, 0, none⟩) N cap, m] 35 (0, 0)) ∧ (∀ i, i < N → w.cell? ⟨g, i, none⟩ = some (.string (names.getD i ByteArray.empty))) ∧
      ((N ≤ 8 ∧ m = .map none) ∨ (8 < N ∧ ∃ mb, m = .map (some mb) ∧ B ≤ mb ∧ w.ownsMap Try.prog 9 (plainElem Try.prog 3) mb N (dm names N))) := by
  subst hN
  obtain ⟨_, _, _, v, m, hb, hrow, hm⟩ := h
  rcases hrow.2 with ⟨_, h0⟩ | ⟨g, cap, cur, rfl, hg, hh, _, _, _, hx⟩
  · omega
  · exact ⟨g, cap, m, hb, row_cells (cap := cap) hh hx, hm⟩

theorem look_at {w : World} {names : List ByteArray} {N mb i : Nat} (h : w.ownsMap Try.prog 9 (plainElem Try.prog 3) mb N (dm names N)) (hN : N = names.length) (hnd : names.Nodup) (hsz : ∀ s ∈ names, s.size ≤ maxLen) (hi : i < N) :
    (Instr.lookup 29 (.map (some mb)) (.string (names.getD i ByteArray.empty)) true).run Try.prog w = .ok (.tuple #[.int .i64 (i : Int), .bool true]) w := by
  subst hN
  have hkey : keyOf Try.prog 9 (.string (names.getD i ByteArray.empty)) = some (key (names.getD i ByteArray.empty)) := Go.WideMaps.keyOf_string_mk Try.underlying9 (hsz _ (getD_mem hi))
  obtain ⟨v, ps, hrun, hv⟩ := h.look_ok law Try.underlying29 (zero3 w) (plainElem_int Try.underlying3 (a := 0) (by decide)) hkey
  rw [at_dm names hnd _ names.length (Nat.le_refl _) i hi] at hv
  obtain ⟨a, rfl, ha, _⟩ := plainElem_int_inv Try.underlying3 hv
  have e : (i : Int) = a := by
    have := congrArg Prod.fst ha
    simpa using this
  rw [has_dm names _ names.length (Nat.le_refl _), List.take_length, memB_iff.2 (getD_mem hi)] at hrun
  rw [hrun, e]

theorem zzadd_is (B p : Nat) (names : List ByteArray) (s : ByteArray) (R : Nat) (w : World) (h : IxAt w B p names) (hR : idx (addN names s) s = R) (hl : names.length ≤ 1048575) (hs : s.size ≤ maxLen) (hB : B ≤ w.heap.size) :
    Calls Try.prog 7 #[.pointer (some ⟨p, 0, none⟩), .string s] w fun e w' => e = .returned (.int .i64 (R : Int)) ∧ IxAt w' B p (addN names s) ∧ Kept B p w w' := by
  subst hR; exact zzadd B p names s w h hl hs hB

set_option maxRecDepth 100000 in
set_option maxHeartbeats 1000000 in
theorem first_row (b off n cap : Nat) (X : List ByteArray) (x : Nat → ByteArray) (G F : Nat → Nat) (w : World) (hn1 : 1 ≤ n) (hn : n ≤ maxLen) (hx : ∀ i, i < n → w.cell? ⟨b, off + i, none⟩ = some (.string (x i)))
    (HX : Hid (n = X.length)) (HXx : Hid (∀ i, x i = X.getD i ByteArray.empty)) (HG : Hid (∀ i, G i = idx (ded X) (x i))) (hxs : ∀ i, (x i).size ≤ maxLen) (hbw : b < w.heap.size)
    (HF : Hid (∀ k, F k = (ded (X.take k)).length)) (hF : ∀ k, F k ≤ n) (HR : Hid (∀ k, k < n → idx (addN (ded (X.take k)) (x k)) (x k) = G k))
    (HGG : Hid (∀ i j, x i = x j → G i = G j)) (HGF : Hid (∀ k, k < n → (∀ i, i < k → x i ≠ x k) → G k = F k)) (HFn : Hid (∀ k, k < n → (∀ i, i < k → x i ≠ x k) → F (k + 1) = F k + 1)) (HFo : Hid (∀ k i, k < n → i < k → x i = x k → F (k + 1) = F k))
    (HFpos : Hid (1 ≤ F n)) (HGn : Hid (∀ k, k < n → G k < F n ∧ (ded X).getD (G k) ByteArray.empty = x k)) :
    Calls Try.prog 3 #[.slice (some ⟨b, off, none⟩) n cap] w fun e w' => e = .returned (.bool true) ∧ Below w.heap.size w w' := by
  have hcall := bytes5 b off n cap x w hn hx
  unfold maxLen at hn
  by_cases hbig : 4096 < n
  · go_enter Try.func3, Try.ntmps3
    go_wp2_with fail
    refine hcall.mono ?_
    rintro e w' ⟨q, rfl, rfl⟩
    cases q
    · go_wp2
      go_ret
      exact ⟨rfl, Below.refl _ _⟩
    · go_wp2
      go_ret
      exact ⟨rfl, Below.refl _ _⟩
  have hmk := run_make_row' (P := Try.prog) 26 3 (.int .i64 0) 8 Try.underlying26 Try.info3 rfl .i64 .i64 n (by omega) (by omega)
  go_enter Try.func3, Try.ntmps3
  go_wp2_with fail
  refine hcall.mono ?_
  rintro e w' ⟨q, rfl, rfl⟩
  clear hcall
  cases q
  · go_wp2
    go_ret
    exact ⟨rfl, Below.refl _ _⟩
  go_wp2_with fail
  go_loop [3, 4] (fun t i => ∃ (k : Nat) (z : Int), k ≤ n ∧ i = .int .i64 k ∧ t = .int .i64 z) (fun _ i => n - (intOf i).toNat)
  case atStart => exact ⟨0, _, Nat.zero_le _, rfl, rfl⟩
  case round =>
    obtain ⟨k, z, hk, rfl, rfl⟩ := hrel
    by_cases hlt : k < n
    · have hck := hx k hlt
      go_wp2
      · go_ret
        exact ⟨rfl, Below.refl _ _⟩
      · go_round
        case rel => exact ⟨k + 1, _, by omega, by go_num, rfl⟩
        case measure => simp [intOf]; omega
    · go_wp2_with fail
      refine (zznew _).mono ?_
      rintro e w1 ⟨rfl, rfl⟩
      go_wp2_with fail
      have HS : Hid (LInv w' X G 0 ((w'.alloc (.cells #[.slice none 0 0, .map none] 35)).alloc (.cells (madeCells #[.int .i64 0] n) 3))) := linv_start w' X G n HX.out
      clear hk hlt
      go_loopw [7, 8] (fun f i wr => ∃ k2 : Nat, k2 ≤ n ∧ i = .int .i64 k2 ∧ f = .int .i64 (F k2 : Int) ∧ LInv w' X G k2 wr) (fun _ i _ => n - (intOf i).toNat)
      case atStart => exact ⟨0, Nat.zero_le _, rfl, int_eq (by rw [HF.out 0]; rfl), HS.out⟩
      case round =>
        obtain ⟨k2, hk2, rfl, rfl, hL⟩ := hrel
        by_cases hlt2 : k2 < n
        · have q1 := (hL.2.2.1.cell (p := ⟨b, off + k2, none⟩) hbw).trans (hx k2 hlt2)
          have hFk := hF k2
          go_wp2_with fail
          refine (zzadd_is (w'.heap.size + 2) w'.heap.size (ded (X.take k2)) (x k2) (G k2) _ hL.1 (HR.out k2 hlt2) ?_ (hxs k2) hL.2.2.2).mono ?_
          · have := HF.out k2; omega
          rintro e w3 ⟨rfl, hix3, hkept3⟩
          have hrow3 := hL.2.1.of_block (hkept3.block (w'.heap.size + 1) (by omega) (by omega))
          have r1 := hrow3.cell (i := k2) (by have := HX.out; omega)
          have r2 := hrow3.frozen k2
          have hL4 := linv_add hL (by have := HX.out; omega) (by rw [← HXx.out k2]; exact hix3) hkept3
          have HL4 : Hid (LInv w' X G (k2 + 1) (w3.setCell ⟨w'.heap.size + 1, k2, none⟩ (.int .i64 (G k2 : Int)))) := hL4
          clear hL hL4 hix3 hkept3 hrow3
          go_wp2_with fail
          obtain ⟨wo, hwo⟩ : ∃ wo : World, wo = wr := ⟨_, rfl⟩
          clear hwo r1 r2 q1
          go_loopw [10, 11] (fun f i wi => ∃ j : Nat, f = .int .i64 (-1) ∧ i = .int .i64 j ∧ j ≤ k2 ∧ (∀ i, i < j → x i ≠ x k2) ∧ LInv w' X G (k2 + 1) wi) (fun _ i _ => k2 - (intOf i).toNat)
          case atStart => exact ⟨0, rfl, rfl, Nat.zero_le _, fun i hi => absurd hi (by omega), HL4.out⟩
          case round =>
            obtain ⟨j, rfl, rfl, hj, hne, hL⟩ := hrel
            have HNE : Hid (∀ i, i < j → x i ≠ x k2) := hne
            clear hne HL4
            by_cases hlt3 : j < k2
            · have q1 := (hL.2.2.1.cell (p := ⟨b, off + k2, none⟩) hbw).trans (hx k2 hlt2)
              have q2 := (hL.2.2.1.cell (p := ⟨b, off + j, none⟩) hbw).trans (hx j (by omega))
              by_cases e : x j = x k2
              · have HE : Hid (x j = x k2) := e
                have e' := toList_same e
                have q3 := hL.2.1.cell (i := j) (by have := HX.out; omega)
                rw [if_pos (by omega)] at q3
                have hGG : ((G k2 : Int) != (G j : Int)) = false := by rw [HGG.out _ _ e]; simp
                have HL : Hid (LInv w' X G (k2 + 1) wr) := hL
                clear e hL
                go_wp2
                go_quiet (fail)
                go_wp2
                go_roundw
                case rel => exact ⟨k2 + 1, by omega, by go_num, int_eq (by rw [HFo.out k2 j hlt2 hlt3 HE.out]), linv_drew HL.out nq⟩
                case measure => simp [intOf]; omega
              · have HE : Hid (x j ≠ x k2) := e
                have e' := toList_ne e
                have HL : Hid (LInv w' X G (k2 + 1) wr) := hL
                clear e hL
                go_wp2
                go_quiet (fail)
                go_wp2
                go_roundw
                case rel => exact ⟨j + 1, rfl, by go_num, by omega, fun i hi => by rcases Nat.lt_succ_iff_lt_or_eq.1 hi with h | h; exact HNE.out i h; subst h; exact HE.out, linv_drew HL.out nq⟩
                case measure => simp [intOf]; omega
            · have hGF : ((G k2 : Int) != (F k2 : Int)) = false := by rw [HGF.out k2 hlt2 (fun i hi => HNE.out i (by omega))]; simp
              have HL : Hid (LInv w' X G (k2 + 1) wr) := hL
              clear hL
              go_wp2
              go_roundw
              case rel => exact ⟨k2 + 1, by omega, by go_num, int_eq (by rw [HFn.out k2 hlt2 (fun i hi => HNE.out i (by omega))]; omega), HL.out⟩
              case measure => simp [intOf]; omega
        · obtain rfl : k2 = n := by omega
          have hix : IxAt wr (w'.heap.size + 2) w'.heap.size (ded X) := by
            have h := hL.1
            rwa [List.take_of_length_le (by have := HX.out; omega)] at h
          have hFn : F k2 = (ded X).length := by rw [HF.out k2, List.take_of_length_le (by have := HX.out; omega)]
          obtain ⟨g, cap', m, hb, hcells, hmm⟩ := ix_shape hix (N := F k2) hFn HFpos.out
          have hsz := hix.2.2.1
          have HFN : Hid (F k2 = (ded X).length) := hFn
          clear hFn hix
          have HL : Hid (LInv w' X G k2 wr) := hL
          have HB : Hid (wr.heap[w'.heap.size]? = some (.cells #[.slice (some ⟨g, 0, none⟩) (F k2) cap', m] 35 (0, 0))) := hb
          clear hL hb hmk hk2 hlt2
          go_wp2_with fail
          refine (zznames _ _ _ _ _ _ HB.out).mono ?_
          rintro e w4 ⟨rfl, rfl⟩
          go_wp2_with fail
          have hrow := HL.out.2.1
          have hbelow := HL.out.2.2.1
          go_loopw [13] (fun i wi => ∃ k3 q : Nat, i = .int .i64 k3 ∧ k3 ≤ k2 ∧ wi = w4.drewN q) (fun i _ => k2 - (intOf i).toNat)
          case atStart => exact ⟨0, 0, rfl, Nat.zero_le _, rfl⟩
          case round =>
            obtain ⟨k3, q, rfl, hk3, rfl⟩ := hrel
            by_cases hlt3 : k3 < k2
            · have q1 := hrow.cell (i := k3) (by have := HX.out; omega)
              rw [if_pos hlt3] at q1
              obtain ⟨hG1, hG2⟩ := HGn.out k3 hlt3
              have q2 := hcells (G k3) hG1
              rw [hG2] at q2
              have q3 := (hbelow.cell (p := ⟨b, off + k3, none⟩) hbw).trans (hx k3 hlt3)
              have hG1' : (G k3 : Int) < (F k2 : Int) := by omega
              clear hG2 hrow hbelow hcells hx
              go_wp2
              go_quiet (fail)
              go_wp2
              go_roundw
              case rel => exact ⟨k3 + 1, q + nq, by go_num, by omega, rfl⟩
              case measure => simp [intOf]; omega
            · clear hrow
              have HBW : Hid (Below w'.heap.size w' (w4.drewN q)) := below_drewN hbelow q
              clear hbelow
              have hnm := fun (w : World) (r : Option Nat) => run_neq_map_nil (P := Try.prog) w 29 9 3 r Try.underlying29
              have hem := fun (w : World) (r : Option Nat) => run_eql_map_nil (P := Try.prog) w 29 9 3 r Try.underlying29
              rcases hmm with ⟨h8, rfl⟩ | ⟨h8, mb, rfl, hmb, hmap⟩
              · go_wp2_with fail
                refine (zzbyName _ _ _ _ (by exact HB.out)).mono ?_
                rintro e w5 ⟨rfl, rfl⟩
                go_wp2_with fail
                go_ret
                exact ⟨rfl, HBW.out⟩
              · have hlen : ∀ (ty : TypeId), (Builtin.len_ #[29] ty #[.map (some mb)]).run Try.prog (w4.drewN q) = .ok (.int .i64 (F k2 : Int)) (w4.drewN q) := by
                  intro ty
                  have hmap' : (w4.drewN q).ownsMap Try.prog 9 (plainElem Try.prog 3) mb (F k2) (dm (ded X) (F k2)) := hmap
                  rw [hmap'.len Try.underlying29 ty, HFN.out, size_dm (ded X) (nodup_ded X) _ (Nat.le_refl _)]
                go_wp2_with fail
                refine (zzbyName _ _ _ _ (by exact HB.out)).mono ?_
                rintro e w5 ⟨rfl, rfl⟩
                go_wp2_with fail
                clear hlen
                have hFk := hF k2
                go_loop [15] (fun i => ∃ j : Nat, i = .int .i64 j ∧ j ≤ F k2) (fun i => F k2 - (intOf i).toNat)
                case atStart => exact ⟨0, rfl, Nat.zero_le _⟩
                case round =>
                  obtain ⟨j, rfl, hj⟩ := hrel
                  by_cases hlt5 : j < F k2
                  · have q2 := hcells j hlt5
                    have hmap' : (w4.drewN q).ownsMap Try.prog 9 (plainElem Try.prog 3) mb (F k2) (dm (ded X) (F k2)) := hmap
                    have hlk := look_at hmap' HFN.out (nodup_ded X) hsz hlt5
                    obtain ⟨t, ht⟩ : ∃ t, t = (ded X).getD j ByteArray.empty := ⟨_, rfl⟩
                    rw [← ht] at q2 hlk
                    clear ht hmap' hcells
                    go_wp2
                    go_round
                    case rel => exact ⟨j + 1, by go_num, by omega⟩
                    case measure => simp [intOf]; omega
                  · go_wp2
                    go_ret
                    exact ⟨rfl, HBW.out⟩

end Go.Proofs.Qxb6630777a

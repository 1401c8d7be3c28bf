/-
  THE WALK OF zzText: what it hands back is a new row that holds the number's canonical text.
-/
import Derived.Test.Qxb6630744aParse
import Derived.Deep.OwnRows
namespace Go.Proofs.Qxb6630744a
open Go.RowKit
set_option linter.unusedSimpArgs false
set_option linter.unusedVariables false

theorem Try.info5 : (Try.prog.info? 5).map (fun i => (i.zero, i.size, i.bytes)) = some (some (.int .u8 0), 1, 1) := by kernel_rfl

/-- The buffer's bytes: zeros below k, then t. -/
def bufF (k : Nat) (t : List Int) (j : Nat) : Int := if j < k then 0 else t.getD (j - k) 0

theorem digs_len (n : Nat) (h : n < 10000000000000000000) : (digs n).length ≤ 19 := by
  apply Classical.byContradiction
  intro hl
  by_cases h0 : n = 0
  · rw [h0, digs_zero] at hl; simp at hl
  · have := val_long (digs n) (digs_all n) (digs_head n h0) (by omega)
    rw [val_digs] at this
    omega

/-- What holds of the buffer while the digits are written. -/
def TInv (w : World) (N k m : Nat) (t : List Int) (wr : World) : Prop :=
  k + t.length = 20 ∧ digs m ++ t = digs N ∧ m ≤ N ∧ wr.rowIs w.heap.size 30 20 (fun j => .int .u8 (bufF k t j)) ∧ Below w.heap.size w wr ∧ wr.heap.size = w.heap.size + 1

theorem tinv_start (w : World) (N : Nat) : TInv w N 20 N [] (w.alloc (Obj.cells #[Value.int IntKind.u8 0, Value.int IntKind.u8 0, Value.int IntKind.u8 0, Value.int IntKind.u8 0,
      Value.int IntKind.u8 0, Value.int IntKind.u8 0, Value.int IntKind.u8 0, Value.int IntKind.u8 0,
      Value.int IntKind.u8 0, Value.int IntKind.u8 0, Value.int IntKind.u8 0, Value.int IntKind.u8 0,
      Value.int IntKind.u8 0, Value.int IntKind.u8 0, Value.int IntKind.u8 0, Value.int IntKind.u8 0,
      Value.int IntKind.u8 0, Value.int IntKind.u8 0, Value.int IntKind.u8 0, Value.int IntKind.u8 0] 30)) := by
  refine ⟨rfl, by simp, Nat.le_refl _, ?_, (Below.refl _ _).alloc (Nat.le_refl _) _, by simp⟩
  refine World.rowIs_alloc w _ 30 _ ?_
  intro i hi
  have hb : bufF 20 [] i = 0 := by simp [bufF]
  rw [hb]
  have : i < 20 := hi
  match i, this with
  | 0, _ | 1, _ | 2, _ | 3, _ | 4, _ | 5, _ | 6, _ | 7, _ | 8, _ | 9, _ | 10, _ | 11, _ | 12, _ | 13, _ | 14, _ | 15, _ | 16, _ | 17, _ | 18, _ | 19, _ => rfl
  | n + 20, h => exact absurd h (by omega)

theorem row_push {w : World} {b k : Nat} {t : List Int} (h : w.rowIs b 30 20 (fun j => .int .u8 (bufF (k + 1) t j))) (c : Int) :
    (w.setCell ⟨b, k, none⟩ (.int .u8 c)).rowIs b 30 20 (fun j => .int .u8 (bufF k (c :: t) j)) := by
  refine (h.set k _).congr ?_
  intro i _
  show (if i = k then Value.int .u8 c else .int .u8 (bufF (k + 1) t i)) = .int .u8 (bufF k (c :: t) i)
  by_cases e : i = k
  · subst e
    rw [if_pos rfl]
    simp [bufF]
  · rw [if_neg e]
    congr 1
    unfold bufF
    by_cases e2 : i < k
    · rw [if_pos e2, if_pos (by omega)]
    · rw [if_neg e2, if_neg (by omega)]
      obtain ⟨d, rfl⟩ : ∃ d, i = k + 1 + d := ⟨i - (k + 1), by omega⟩
      rw [show k + 1 + d - (k + 1) = d by omega, show k + 1 + d - k = d + 1 by omega]
      rfl

theorem tinv_step {w : World} {N k m : Nat} {t : List Int} {wr : World} (h : TInv w N (k + 1) m t wr) (hm : 10 ≤ m) (c : Int) (hc : c = 48 + ((m % 10 : Nat) : Int)) :
    TInv w N k (m / 10) (c :: t) (wr.setCell ⟨w.heap.size, k, none⟩ (.int .u8 c)) := by
  obtain ⟨h1, h2, h3, h4, h5, h6⟩ := h
  refine ⟨by simp; omega, ?_, by omega, row_push h4 c, h5.setCell (Nat.le_refl _) _, by rw [← h6]; simp⟩
  rw [← h2, digs_big (n := m) (by omega), hc]
  simp

theorem tinv_room {w : World} {N k m : Nat} {t : List Int} {wr : World} (h : TInv w N (k + 1) m t wr) (hN : N < 10000000000000000000) : 1 ≤ k := by
  obtain ⟨h1, h2, _⟩ := h
  have h3 := congrArg List.length h2
  rw [List.length_append] at h3
  have h4 := digs_len N hN
  have h5 : 0 < (digs m).length := List.length_pos_iff.2 (digs_ne m)
  omega

/-- Behind the last digit the buffer holds the digits of N from k on. -/
theorem tinv_last {w : World} {N k m : Nat} {t : List Int} {wr : World} (h : TInv w N (k + 1) m t wr) (hm : m < 10) (c : Int) (hc : c = 48 + (m : Int)) :
    k + (digs N).length = 20 ∧ (wr.setCell ⟨w.heap.size, k, none⟩ (.int .u8 c)).rowIs w.heap.size 30 20 (fun j => .int .u8 (bufF k (digs N) j)) ∧
      Below w.heap.size w (wr.setCell ⟨w.heap.size, k, none⟩ (.int .u8 c)) ∧ (wr.setCell ⟨w.heap.size, k, none⟩ (.int .u8 c)).heap.size = w.heap.size + 1 := by
  obtain ⟨h1, h2, h3, h4, h5, h6⟩ := h
  have e : digs N = c :: t := by rw [← h2, digs_small hm, hc]; rfl
  rw [e]
  exact ⟨by simp; omega, row_push h4 c, h5.setCell (Nat.le_refl _) _, by rw [← h6]; simp⟩

/-- While the text is copied out. -/
def CInv (w : World) (L : List Int) (k j : Nat) (wq : World) : Prop :=
  wq.rowIs w.heap.size 30 20 (fun i => .int .u8 (bufF k L i)) ∧ wq.rowIs (w.heap.size + 1) 5 L.length (fun i => .int .u8 (if i < j then L.getD i 0 else 0)) ∧ Below w.heap.size w wq

theorem cinv_start {w wr : World} {L : List Int} {k : Nat} (hr : wr.rowIs w.heap.size 30 20 (fun j => .int .u8 (bufF k L j))) (hb : Below w.heap.size w wr) (hs : wr.heap.size = w.heap.size + 1) (n : Nat) (hn : n = L.length) :
    CInv w L k 0 (wr.alloc (.cells (madeCells #[.int .u8 0] n) 5)) := by
  subst hn
  refine ⟨hr.alloc _, ?_, hb.alloc hb.size _⟩
  have := World.rowIs_made wr (.int .u8 0) L.length 5
  rw [hs] at this
  exact this.congr (fun i _ => by simp)

theorem cinv_step {w wq : World} {L : List Int} {k j : Nat} (h : CInv w L k j wq) (c : Int) (hc : c = L.getD j 0) : CInv w L k (j + 1) (wq.setCell ⟨w.heap.size + 1, j, none⟩ (.int .u8 c)) := by
  obtain ⟨h1, h2, h3⟩ := h
  refine ⟨h1.setOther (by simp) _, (h2.set j _).congr ?_, h3.setCell (by simp) _⟩
  intro i _
  show (if i = j then Value.int .u8 c else .int .u8 (if i < j then L.getD i 0 else 0)) = .int .u8 (if i < j + 1 then L.getD i 0 else 0)
  by_cases e : i = j
  · subst e; rw [if_pos rfl, if_pos (by omega), hc]
  · rw [if_neg e]
    by_cases e2 : i < j
    · rw [if_pos e2, if_pos (by omega)]
    · rw [if_neg e2, if_neg (by omega)]

theorem cinv_cells {w wq : World} {L : List Int} {k j : Nat} (h : CInv w L k j wq) (hk : k + L.length = 20) (hj : j < L.length) :
    wq.cell? ⟨w.heap.size, k + j, none⟩ = some (.int .u8 (L.getD j 0)) ∧ wq.cell? ⟨w.heap.size + 1, j, none⟩ = some (.int .u8 0) ∧ wq.frozen? ⟨w.heap.size + 1, j, none⟩ = false := by
  obtain ⟨h1, h2, h3⟩ := h
  refine ⟨?_, ?_, h2.frozen j⟩
  · rw [h1.cell (by omega)]
    congr 2
    rw [bufF, if_neg (by omega), Nat.add_sub_cancel_left]
  · rw [h2.cell hj]
    simp

theorem cinv_done {w wq : World} {L : List Int} {k j : Nat} (h : CInv w L k j wq) (hj : L.length ≤ j) (hL : ∀ c ∈ L, 0 ≤ c ∧ c ≤ 255) : Row wq (w.heap.size + 1) 0 L ∧ Below w.heap.size w wq := by
  obtain ⟨h1, h2, h3⟩ := h
  refine ⟨⟨fun i hi => ?_, hL⟩, h3⟩
  rw [Nat.zero_add, h2.cell hi]
  simp [show i < j by omega]

theorem digs_bd (N : Nat) : ∀ c ∈ digs N, 0 ≤ c ∧ c ≤ 255 := by
  intro c hc
  have := List.all_eq_true.1 (digs_all N) c hc
  rw [dig_iff] at this
  omega

set_option maxHeartbeats 400000 in
theorem text_pos (N : Nat) (w : World) (h1 : N ≤ 9223372036854775807) :
    Calls Try.prog 8 #[.int .i64 (N : Int)] w fun e w' => ∃ b, e = .returned (.slice (some ⟨b, 0, none⟩) (digs N).length (digs N).length) ∧ w.heap.size ≤ b ∧ Row w' b 0 (digs N) ∧ Below w.heap.size w w' := by
  go_enter Try.func8, Try.ntmps8
  go_wp2
  go_loopw [4, 5] (fun i u wr => ∃ (k m : Nat) (t : List Int), i = .int .i64 ((k : Int) + 1) ∧ u = .int .u64 (m : Int) ∧ TInv w N (k + 1) m t wr) (fun _ u _ => (intOf u).toNat)
  case atStart => exact ⟨19, N, [], rfl, rfl, tinv_start w N⟩
  case round =>
    obtain ⟨k, m, t, rfl, rfl, hT⟩ := hrel
    have hk1 := tinv_room hT (by omega)
    have hk2 : k < 20 := by have := hT.1; omega
    have hm : m ≤ 9223372036854775807 := by have := hT.2.2.1; omega
    have hcell := hT.2.2.2.1.cell hk2
    have hfro := hT.2.2.2.1.frozen k
    have HT : Hid (TInv w N (k + 1) m t wr) := hT
    clear hT
    by_cases hlt : 10 ≤ m
    · go_wp2
      go_roundw
      case rel =>
        obtain ⟨k', rfl⟩ : ∃ k', k = k' + 1 := ⟨k - 1, by omega⟩
        exact ⟨k', m / 10, _, by go_num, by go_num, tinv_step HT.out hlt _ (by omega)⟩
      case measure => simp [intOf]; omega
    · have hmk := run_make_row' (P := Try.prog) 22 5 (.int .u8 0) 1 Try.underlying22 Try.info5 rfl .i64 .i64 (20 - k) (by omega) (by omega)
      rw [show ((20 - k : Nat) : Int) = 20 - (k : Int) by omega] at hmk
      obtain ⟨hk3, hrow, hbel, hsz⟩ := tinv_last HT.out (by omega) (48 + (m : Int)) rfl
      have HC : Hid (CInv w (digs N) k 0 ((wr.setCell ⟨w.heap.size, k, none⟩ (.int .u8 (48 + (m : Int)))).alloc (.cells (madeCells #[.int .u8 0] (20 - k)) 5))) := cinv_start hrow hbel hsz (20 - k) (by omega)
      clear hrow hbel
      have HK : Hid (k + (digs N).length = 20) := hk3
      clear hk3 HT
      go_wp2
      obtain ⟨wo, rfl⟩ : ∃ wo : World, wo = wr := ⟨_, rfl⟩
      go_loopw [7] (fun i wr => ∃ j : Nat, i = .int .i64 (j : Int) ∧ j ≤ 20 - k ∧ CInv w (digs N) k j wr) (fun i _ => 20 - k - (intOf i).toNat)
      case atStart => exact ⟨0, rfl, Nat.zero_le _, HC.out⟩
      case round =>
        obtain ⟨j, rfl, hj, hC⟩ := hrel
        by_cases hlt2 : j < 20 - k
        · obtain ⟨q1, q2, q3⟩ := cinv_cells hC HK.out (by have := HK.out; omega)
          have HC2 : Hid (CInv w (digs N) k j wr) := hC
          clear hC
          obtain ⟨c, hcq⟩ : ∃ c : Int, c = (digs N).getD j 0 := ⟨_, rfl⟩
          rw [← hcq] at q1
          have HQ : Hid (c = (digs N).getD j 0) := hcq
          clear hcq
          go_wp2
          go_roundw
          case rel => exact ⟨j + 1, by go_num, by omega, cinv_step HC2.out _ HQ.out⟩
          case measure => simp [intOf]; omega
        · go_wp2
          go_ret
          obtain ⟨r1, r2⟩ := cinv_done hC (by have := HK.out; omega) (digs_bd N)
          exact ⟨w.heap.size + 1, by rw [show (digs N).length = 20 - k by have := HK.out; omega]; rfl, by omega, r1, r2⟩

theorem neg_wrap (v : Int) (h0 : v < 0) (h1 : -9223372036854775808 ≤ v) : IntKind.u64.wrap (-IntKind.u64.wrap v) = (v.natAbs : Int) := by
  rw [IntKind.wrap_u64, IntKind.wrap_u64]
  omega

theorem text_bd (v : Int) : ∀ c ∈ text v, 0 ≤ c ∧ c ≤ 255 := by
  unfold text
  split
  · intro c hc
    rcases List.mem_cons.1 hc with h | h
    · omega
    · exact digs_bd _ c h
  · exact digs_bd _

set_option maxHeartbeats 400000 in
theorem text_negv (v : Int) (N : Nat) (w : World) (h0 : v < 0) (h1 : -9223372036854775808 ≤ v) (HN : Hid (v.natAbs = N)) (h2 : N ≤ 9223372036854775808) :
    Calls Try.prog 8 #[.int .i64 v] w fun e w' => ∃ b, e = .returned (.slice (some ⟨b, 0, none⟩) ((45 : Int) :: digs N).length ((45 : Int) :: digs N).length) ∧ w.heap.size ≤ b ∧ Row w' b 0 (45 :: digs N) ∧ Below w.heap.size w w' := by
  go_enter Try.func8, Try.ntmps8
  go_wp2
  go_loopw [4, 5] (fun i u wr => ∃ (k m : Nat) (t : List Int), i = .int .i64 ((k : Int) + 1) ∧ u = .int .u64 (m : Int) ∧ TInv w N (k + 1) m t wr) (fun _ u _ => (intOf u).toNat)
  case atStart => exact ⟨19, N, [], rfl, int_eq (by rw [neg_wrap v h0 h1, HN.out]), tinv_start w N⟩
  case round =>
    obtain ⟨k, m, t, rfl, rfl, hT⟩ := hrel
    have hk1 := tinv_room hT (by omega)
    obtain ⟨q, rfl⟩ : ∃ q, k = q + 1 := ⟨k - 1, by omega⟩
    have hk2 : q + 1 < 20 := by have := hT.1; omega
    have hm : m ≤ 9223372036854775808 := by have := hT.2.2.1; omega
    have hcell := hT.2.2.2.1.cell hk2
    have hfro := hT.2.2.2.1.frozen (q + 1)
    have HT : Hid (TInv w N (q + 1 + 1) m t wr) := hT
    by_cases hlt : 10 ≤ m
    · clear hT
      go_wp2
      go_roundw
      case rel => exact ⟨q, m / 10, _, by go_num, by go_num, tinv_step HT.out hlt _ (by omega)⟩
      case measure => simp [intOf]; omega
    · have hcell0 := hT.2.2.2.1.cell (i := q) (by omega)
      have hfro0 := hT.2.2.2.1.frozen q
      clear hT
      have hmk := run_make_row' (P := Try.prog) 22 5 (.int .u8 0) 1 Try.underlying22 Try.info5 rfl .i64 .i64 (20 - q) (by omega) (by omega)
      rw [show ((20 - q : Nat) : Int) = 20 - (q : Int) by omega] at hmk
      obtain ⟨hk3, hrow, hbel, hsz⟩ := tinv_last HT.out (by omega) (48 + (m : Int)) rfl
      have HC : Hid (CInv w (45 :: digs N) q 0 (((wr.setCell ⟨w.heap.size, q + 1, none⟩ (.int .u8 (48 + (m : Int)))).setCell ⟨w.heap.size, q, none⟩ (.int .u8 45)).alloc (.cells (madeCells #[.int .u8 0] (20 - q)) 5))) :=
        cinv_start (row_push hrow 45) (hbel.setCell (Nat.le_refl _) _) (by rw [← hsz]; simp) (20 - q) (by simp; omega)
      have HK : Hid (q + ((45 : Int) :: digs N).length = 20) := by show q + ((45 : Int) :: digs N).length = 20; simp; omega
      clear hrow hbel hk3 HT
      go_wp2
      obtain ⟨wo, rfl⟩ : ∃ wo : World, wo = wr := ⟨_, rfl⟩
      go_loopw [7] (fun i wr => ∃ j : Nat, i = .int .i64 (j : Int) ∧ j ≤ 20 - q ∧ CInv w (45 :: digs N) q j wr) (fun i _ => 20 - q - (intOf i).toNat)
      case atStart => exact ⟨0, rfl, Nat.zero_le _, HC.out⟩
      case round =>
        obtain ⟨j, rfl, hj, hC⟩ := hrel
        by_cases hlt2 : j < 20 - q
        · obtain ⟨q1, q2, q3⟩ := cinv_cells hC HK.out (by have := HK.out; omega)
          have HC2 : Hid (CInv w (45 :: digs N) q j wr) := hC
          clear hC
          obtain ⟨c, hcq⟩ : ∃ c : Int, c = ((45 : Int) :: digs N).getD j 0 := ⟨_, rfl⟩
          rw [← hcq] at q1
          have HQ : Hid (c = ((45 : Int) :: digs N).getD j 0) := hcq
          clear hcq
          go_wp2
          go_roundw
          case rel => exact ⟨j + 1, by go_num, by omega, cinv_step HC2.out _ HQ.out⟩
          case measure => simp [intOf]; omega
        · go_wp2
          go_ret
          obtain ⟨r1, r2⟩ := cinv_done hC (by have := HK.out; omega) (fun c hc => (List.mem_cons.1 hc).elim (fun h => by omega) (digs_bd N c))
          exact ⟨w.heap.size + 1, by rw [show (digs N).length + 1 = 20 - q by have := HK.out; simp at this; omega]; rfl, by omega, r1, r2⟩

/-- zzText, whole. -/
theorem text_any (v : Int) (w : World) (h0 : -9223372036854775808 ≤ v) (h1 : v ≤ 9223372036854775807) :
    Calls Try.prog 8 #[.int .i64 v] w fun e w' => ∃ b, e = .returned (.slice (some ⟨b, 0, none⟩) (text v).length (text v).length) ∧ w.heap.size ≤ b ∧ Row w' b 0 (text v) ∧ Below w.heap.size w w' := by
  unfold text
  by_cases h : v < 0
  · rw [if_pos h]
    exact text_negv v v.natAbs w h h0 rfl (by omega)
  · rw [if_neg h]
    have := text_pos v.natAbs w (by omega)
    rwa [show (v.natAbs : Int) = v by omega] at this

end Go.Proofs.Qxb6630744a

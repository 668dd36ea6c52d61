import Derived.Test.Qxb6617231aD4
import Derived.Deep.RegionHeld3
import Derived.Deep.DrawnRows
namespace Go.Proofs.Qxb6617231a
open Go.RowKit
attribute [local go_sem ↓] Go.wp_at_zero Go.wp_at_succ

theorem Try.info57 : (Try.prog.info? 57).map (fun i => (i.zero, i.size, i.bytes)) = some (some (.agg #[.int .i64 0, .string ByteArray.empty, .int .u8 0, .string ByteArray.empty, .string ByteArray.empty, .int .i64 0, .pointer none, .int .i64 0, .bool false, .int .i64 0, .int .i64 0]), 11, 112) := by kernel_rfl

set_option maxHeartbeats 1000000 in
theorem toWrites_some (b off n cap : Nat) (T : Nat → Int) (R : Nat → ByteArray) (O : Nat → Int) (xs : List Value) (w : World) (hn : n ≤ 65536) 
    (hX : Hid (∀ i j u, i < n → j < 11 → (swC (T i, R i, O i))[j]? = some u → xs[i * 11 + j]? = some u)) 
    (hc : Hid (∀ i, i < n → w.cell? ⟨b, off + i * 3, none⟩ = some (.int .i64 (T i)) ∧ w.cell? ⟨b, off + i * 3 + 1, none⟩ = some (.string (R i)) ∧ w.cell? ⟨b, off + i * 3 + 2, none⟩ = some (.int .u8 (O i)))) :
    Calls Try.prog 10 #[.slice (some ⟨b, off, none⟩) n cap] w fun e w' => e = .returned (.slice (some ⟨w.heap.size, 0, none⟩) n n) ∧ Filled w' w.heap.size (n * 11) (n * 11) 57 xs ∧ Below w.heap.size w w' := by
  obtain ⟨i0, hi, hz0, hz1, hz2⟩ := info_parts Try.info57
  have hnil := fun w a n c => Lib.run_eql_slice_nil (P := Try.prog) w 23 34 a n c 0 0 Try.underlying23
  go_enter Try.func10, Try.ntmps10
  go_wp2_with (at_make; go_must (refine wpList_make_full _ rfl _ _ 29 rfl w.heap.size 57 i0 _ 11 Try.underlying29 hi hz0 hz1 _ _ _ _ n rfl rfl rfl rfl (by rw [hz2]; omega) (by unfold maxLen; omega) (Nat.le_refl _) ?_))
  intro w1 h1 h2
  have hf := hide (Filled.made h1 xs)
  have hb1 := below_grownBy h2
  clear h1 h2 hi hz0 hz1 hz2 hnil
  go_wp2_with fail
  go_loopw [4] (fun i wr => ∃ k : Nat, k ≤ n ∧ i = .int .i64 k ∧ Filled wr w.heap.size (n * 11) (k * 11) 57 xs ∧ Below w.heap.size w wr) (fun i _ => n - (intOf i).toNat)
  case atStart => exact ⟨0, Nat.zero_le _, rfl, by simpa using hf.out, hb1⟩
  case round =>
    obtain ⟨k, hk, rfl, hfk, hbk⟩ := hrel
    have HF := hide hfk
    by_cases hlt : k < n
    · have e0 : wr.cell? ⟨b, off + k * 3, none⟩ = some (.int .i64 (T k)) := cell_later hbk (hc.out k hlt).1
      have e1 : wr.cell? ⟨b, off + k * 3 + 1, none⟩ = some (.string (R k)) := cell_later hbk (hc.out k hlt).2.1
      have e2 : wr.cell? ⟨b, off + k * 3 + 2, none⟩ = some (.int .u8 (O k)) := cell_later hbk (hc.out k hlt).2.2
      have hb : b < w.heap.size := World.block_lt_of_cell? w _ (hc.out k hlt).1
      obtain ⟨c0, f0⟩ := hfk.held (j := k * 11) (by omega)
      obtain ⟨c1, f1⟩ := hfk.held (j := k * 11 + 1) (by omega)
      obtain ⟨c2, f2⟩ := hfk.held (j := k * 11 + 2) (by omega)
      obtain ⟨c3, f3⟩ := hfk.held (j := k * 11 + 3) (by omega)
      obtain ⟨c4, f4⟩ := hfk.held (j := k * 11 + 4) (by omega)
      obtain ⟨c5, f5⟩ := hfk.held (j := k * 11 + 5) (by omega)
      obtain ⟨c6, f6⟩ := hfk.held (j := k * 11 + 6) (by omega)
      obtain ⟨c7, f7⟩ := hfk.held (j := k * 11 + 7) (by omega)
      obtain ⟨c8, f8⟩ := hfk.held (j := k * 11 + 8) (by omega)
      obtain ⟨c9, f9⟩ := hfk.held (j := k * 11 + 9) (by omega)
      obtain ⟨c10, f10⟩ := hfk.held (j := k * 11 + 10) (by omega)
      have z0 : ∀ j, wr.frozen? ⟨w.heap.size, j, none⟩ = false := fun j => hfk.frozen j
      have hbk1 := hbk.size
      clear hfk
      go_wp2_with fail
      go_region_held3 (fun w' => w'.cell? ⟨b, off + k * 3, none⟩ = some (.int .i64 (T k)) ∧ w'.cell? ⟨b, off + k * 3 + 1, none⟩ = some (.string (R k)) ∧ w'.cell? ⟨b, off + k * 3 + 2, none⟩ = some (.int .u8 (O k))) (refine ⟨cellB (w := wr) ?_ hb e0, cellB (w := wr) ?_ hb e1, cellB (w := wr) ?_ hb e2⟩ <;> (repeat (first | with_reducible exact Below.refl _ _ | with_reducible refine Below.drew ?_ | with_reducible refine setCell0 (Nat.le_refl _) ?_ _ | with_reducible refine alloc0 hbk1 ?_ _))) (fail)
      clear e0 e1 e2 f0 f1 f2 f3 f4 f5 f6 f7 f8 f9 f10 z0
      go_wp2_with fail
      go_roundw
      case rel =>
        refine ⟨k + 1, by omega, by go_num, ?_, ?_⟩
        · rw [show (k + 1) * 11 = k * 11 + 11 by omega]
          exact Filled.drew (HF.out.run11 (hX.out k 0 _ hlt (by omega) rfl) (hX.out k 1 _ hlt (by omega) rfl) (hX.out k 2 _ hlt (by omega) rfl) (hX.out k 3 _ hlt (by omega) rfl) (hX.out k 4 _ hlt (by omega) rfl) (hX.out k 5 _ hlt (by omega) rfl) (hX.out k 6 _ hlt (by omega) rfl) (hX.out k 7 _ hlt (by omega) rfl) (hX.out k 8 _ hlt (by omega) rfl) (hX.out k 9 _ hlt (by omega) rfl) (hX.out k 10 _ hlt (by omega) rfl))
        · exact Below.drew (below11 (Nat.le_refl _) hbk _ _ _ _ _ _ _ _ _ _ _)
      case measure => simp [intOf]; omega
    · obtain rfl : n = k := by omega
      clear hfk
      go_wp2_with fail
      go_ret
      exact ⟨rfl, HF.out, hbk⟩

set_option maxHeartbeats 400000 in
theorem toWrites_nil (w : World) : Calls Try.prog 10 #[.slice none 0 0] w fun e w' => e = .returned (.slice none 0 0) ∧ w = w' := by
  have hnil := fun w a n c => Lib.run_eql_slice_nil (P := Try.prog) w 23 34 a n c 0 0 Try.underlying23
  go_enter Try.func10, Try.ntmps10
  go_wp2
  go_ret
  exact ⟨rfl, rfl⟩

set_option maxHeartbeats 400000 in
theorem toWrites_empty (ad : Addr) (cap : Nat) (w : World) :
    Calls Try.prog 10 #[.slice (some ad) 0 cap] w fun e w' => e = .returned (.slice (some ⟨w.heap.size, 0, none⟩) 0 0) ∧ w.heap.size < w'.heap.size ∧ Below w.heap.size w w' := by
  obtain ⟨i0, hi, hz0, hz1, hz2⟩ := info_parts Try.info57
  have hnil := fun w a n c => Lib.run_eql_slice_nil (P := Try.prog) w 23 34 a n c 0 0 Try.underlying23
  go_enter Try.func10, Try.ntmps10
  go_wp2_with (at_make; go_must (refine wpList_make_full _ rfl _ _ 29 rfl w.heap.size 57 i0 _ 11 Try.underlying29 hi hz0 hz1 _ _ _ _ 0 rfl rfl rfl rfl (by rw [hz2]; omega) (by unfold maxLen; omega) (Nat.le_refl _) ?_))
  intro w1 h1 h2
  have hl : w.heap.size < w1.heap.size := (h1.lt w.heap.size rfl).2
  have hb1 := below_grownBy h2
  clear h1 h2 hi hz0 hz1 hz2 hnil
  go_wp2_with fail
  refine wp_loop_rounds 1 ?_
  rw [rounds_succ]
  go_wp2
  go_ret
  exact ⟨rfl, hl, hb1⟩

theorem cellsS_get (l : List (Int × ByteArray × Int)) (i j : Nat) (u : Value) (h : i < l.length) (hj : j < 11) (hu : (swC ((l.getD i wr0).1, (l.getD i wr0).2.1, (l.getD i wr0).2.2))[j]? = some u) : (cellsS l)[i * 11 + j]? = some u := by
  have a := flat_get swC 11 (fun _ => rfl) wr0 l i j h hj
  exact a.trans hu

/-- toWrites, whatever the writes: the store's writes, in new memory -/
theorem toWrites_any (ao : Option Addr) (n cap : Nat) (l : List (Int × ByteArray × Int)) (w : World) (hn : n ≤ 65536) (h0 : ao = none → n = 0 ∧ cap = 0) (h : WrIn w ao n l) :
    Calls Try.prog 10 #[.slice ao n cap] w fun e w' => ∃ v', e = .returned v' ∧ Rd w' 11 v' n (cellsS l) ∧ (∀ k, v'.ownBlock = some k → w.heap.size ≤ k) ∧ Below w.heap.size w w' := by
  obtain ⟨hl, hc⟩ := h
  cases ao with
  | none =>
    obtain ⟨rfl, rfl⟩ := h0 rfl
    have : l = [] := List.eq_nil_of_length_eq_zero hl
    subst this
    refine (toWrites_nil w).mono ?_
    rintro e w' ⟨rfl, rfl⟩
    exact ⟨_, rfl, ⟨rfl, .inl ⟨rfl, rfl⟩⟩, by simp [Value.ownBlock], Below.refl _ _⟩
  | some ad =>
    by_cases hz : n = 0
    · subst hz
      have : l = [] := List.eq_nil_of_length_eq_zero hl
      subst this
      refine (toWrites_empty ad cap w).mono ?_
      rintro e w' ⟨rfl, h1, h2⟩
      exact ⟨_, rfl, ⟨rfl, .inr ⟨_, 0, rfl, h1, Nat.le_refl _, by simp [cellsS]⟩⟩, by simp [Value.ownBlock], h2⟩
    · obtain ⟨b, off, hao, _, _, _⟩ := hc 0 (by omega)
      injection hao with hao
      subst hao
      refine (toWrites_some b off n cap (fun i => (l.getD i wr0).1) (fun i => (l.getD i wr0).2.1) (fun i => (l.getD i wr0).2.2) (cellsS l) w hn (hide (fun i j u hi hj hu => cellsS_get l i j u (by omega) hj hu)) (hide (fun i hi => by
        obtain ⟨b', off', e, q0, q1, q2⟩ := hc i hi
        injection e with e
        injection e with e1 e2
        subst e1 e2
        exact ⟨q0, q1, q2⟩))).mono ?_
      rintro e w' ⟨rfl, h1, h2⟩
      exact ⟨_, rfl, h1.rd (by rw [cellsS_length, hl]), by simp [Value.ownBlock], h2⟩

set_option maxHeartbeats 1000000 in
theorem toStamps_some (b off n cap : Nat) (T : Nat → Int) (R : Nat → ByteArray) (xs : List Value) (w : World) (hn : n ≤ 65536)
    (hX : Hid (∀ i, i < n → xs[i * 2]? = some (.int .i64 (T i)) ∧ xs[i * 2 + 1]? = some (.string (R i))))
    (hc : Hid (∀ i, i < n → w.cell? ⟨b, off + i * 2, none⟩ = some (.int .i64 (T i)) ∧ w.cell? ⟨b, off + i * 2 + 1, none⟩ = some (.string (R i)))) :
    Calls Try.prog 9 #[.slice (some ⟨b, off, none⟩) n cap] w fun e w' => e = .returned (.slice (some ⟨w.heap.size, 0, none⟩) n n) ∧ Filled w' w.heap.size (n * 2) (n * 2) 38 xs ∧ Below w.heap.size w w' := by
  obtain ⟨i0, hi, hz0, hz1, hz2⟩ := info_parts Try.info38
  have hnil := fun w a n c => Lib.run_eql_slice_nil (P := Try.prog) w 22 53 a n c 0 0 Try.underlying22
  go_enter Try.func9, Try.ntmps9
  go_wp2_with (at_make; go_must (refine wpList_make_full _ rfl _ _ 26 rfl w.heap.size 38 i0 _ 2 Try.underlying26 hi hz0 hz1 _ _ _ _ n rfl rfl rfl rfl (by rw [hz2]; omega) (by unfold maxLen; omega) (Nat.le_refl _) ?_))
  intro w1 h1 h2
  have hf := hide (Filled.made h1 xs)
  have hb1 := below_grownBy h2
  clear h1 h2 hi hz0 hz1 hz2 hnil
  go_wp2_with fail
  go_loopw [4] (fun i wr => ∃ k : Nat, k ≤ n ∧ i = .int .i64 k ∧ Filled wr w.heap.size (n * 2) (k * 2) 38 xs ∧ Below w.heap.size w wr) (fun i _ => n - (intOf i).toNat)
  case atStart => exact ⟨0, Nat.zero_le _, rfl, by simpa using hf.out, hb1⟩
  case round =>
    obtain ⟨k, hk, rfl, hfk, hbk⟩ := hrel
    have HF := hide hfk
    by_cases hlt : k < n
    · have e0 : wr.cell? ⟨b, off + k * 2, none⟩ = some (.int .i64 (T k)) := cell_later hbk (hc.out k hlt).1
      have e1 : wr.cell? ⟨b, off + k * 2 + 1, none⟩ = some (.string (R k)) := cell_later hbk (hc.out k hlt).2
      have hb : b < w.heap.size := World.block_lt_of_cell? w _ (hc.out k hlt).1
      obtain ⟨c0, f0⟩ := hfk.held (j := k * 2) (by omega)
      obtain ⟨c1, f1⟩ := hfk.held (j := k * 2 + 1) (by omega)
      have z0 : ∀ j, wr.frozen? ⟨w.heap.size, j, none⟩ = false := fun j => hfk.frozen j
      have hbk1 := hbk.size
      clear hfk
      go_wp2_with fail
      go_region_held3 (fun w' => w'.cell? ⟨b, off + k * 2, none⟩ = some (.int .i64 (T k)) ∧ w'.cell? ⟨b, off + k * 2 + 1, none⟩ = some (.string (R k))) (refine ⟨cellB (w := wr) ?_ hb e0, cellB (w := wr) ?_ hb e1⟩ <;> (repeat (first | with_reducible exact Below.refl _ _ | with_reducible refine Below.drew ?_ | with_reducible refine setCell0 (Nat.le_refl _) ?_ _ | with_reducible refine alloc0 hbk1 ?_ _))) (fail)
      clear e0 e1 f0 f1 z0
      go_wp2_with fail
      go_roundw
      case rel =>
        refine ⟨k + 1, by omega, by go_num, ?_, Below.drew (setCell0 (Nat.le_refl _) (setCell0 (Nat.le_refl _) hbk _) _)⟩
        rw [show (k + 1) * 2 = k * 2 + 1 + 1 by omega]
        exact Filled.drew ((HF.out.set (hX.out k hlt).1).set (hX.out k hlt).2)
      case measure => simp [intOf]; omega
    · obtain rfl : n = k := by omega
      clear hfk
      go_wp2_with fail
      go_ret
      exact ⟨rfl, HF.out, hbk⟩

set_option maxHeartbeats 400000 in
theorem toStamps_nil (w : World) : Calls Try.prog 9 #[.slice none 0 0] w fun e w' => e = .returned (.slice none 0 0) ∧ w = w' := by
  have hnil := fun w a n c => Lib.run_eql_slice_nil (P := Try.prog) w 22 53 a n c 0 0 Try.underlying22
  go_enter Try.func9, Try.ntmps9
  go_wp2
  go_ret
  exact ⟨rfl, rfl⟩

set_option maxHeartbeats 400000 in
theorem toStamps_empty (ad : Addr) (cap : Nat) (w : World) :
    Calls Try.prog 9 #[.slice (some ad) 0 cap] w fun e w' => e = .returned (.slice (some ⟨w.heap.size, 0, none⟩) 0 0) ∧ w.heap.size < w'.heap.size ∧ Below w.heap.size w w' := by
  obtain ⟨i0, hi, hz0, hz1, hz2⟩ := info_parts Try.info38
  have hnil := fun w a n c => Lib.run_eql_slice_nil (P := Try.prog) w 22 53 a n c 0 0 Try.underlying22
  go_enter Try.func9, Try.ntmps9
  go_wp2_with (at_make; go_must (refine wpList_make_full _ rfl _ _ 26 rfl w.heap.size 38 i0 _ 2 Try.underlying26 hi hz0 hz1 _ _ _ _ 0 rfl rfl rfl rfl (by rw [hz2]; omega) (by unfold maxLen; omega) (Nat.le_refl _) ?_))
  intro w1 h1 h2
  have hl : w.heap.size < w1.heap.size := (h1.lt w.heap.size rfl).2
  have hb1 := below_grownBy h2
  clear h1 h2 hi hz0 hz1 hz2 hnil
  go_wp2_with fail
  refine wp_loop_rounds 1 ?_
  rw [rounds_succ]
  go_wp2
  go_ret
  exact ⟨rfl, hl, hb1⟩

/-- toStamps, whatever the stamps: the store's stamps, in new memory -/
theorem toStamps_any (ao : Option Addr) (n cap : Nat) (l : List (Int × ByteArray)) (w : World) (hn : n ≤ 65536) (h0 : ao = none → n = 0 ∧ cap = 0) (h : StIn w ao n l) :
    Calls Try.prog 9 #[.slice ao n cap] w fun e w' => ∃ v', e = .returned v' ∧ Rd w' 2 v' n (cells2 l) ∧ (∀ k, v'.ownBlock = some k → w.heap.size ≤ k) ∧ Below w.heap.size w w' := by
  obtain ⟨hl, hc⟩ := h
  cases ao with
  | none =>
    obtain ⟨rfl, rfl⟩ := h0 rfl
    have : l = [] := List.eq_nil_of_length_eq_zero hl
    subst this
    refine (toStamps_nil w).mono ?_
    rintro e w' ⟨rfl, rfl⟩
    exact ⟨_, rfl, ⟨rfl, .inl ⟨rfl, rfl⟩⟩, by simp [Value.ownBlock], Below.refl _ _⟩
  | some ad =>
    by_cases hz : n = 0
    · subst hz
      have : l = [] := List.eq_nil_of_length_eq_zero hl
      subst this
      refine (toStamps_empty ad cap w).mono ?_
      rintro e w' ⟨rfl, h1, h2⟩
      exact ⟨_, rfl, ⟨rfl, .inr ⟨_, 0, rfl, h1, Nat.le_refl _, by simp [cells2]⟩⟩, by simp [Value.ownBlock], h2⟩
    · obtain ⟨b, off, hao, _, _⟩ := hc 0 (by omega)
      injection hao with hao
      subst hao
      refine (toStamps_some b off n cap (fun i => (l.getD i st0).1) (fun i => (l.getD i st0).2) (cells2 l) w hn (hide (fun i hi => cells2_get l i (by omega))) (hide (fun i hi => by
        obtain ⟨b', off', e, q0, q1⟩ := hc i hi
        injection e with e
        injection e with e1 e2
        subst e1 e2
        exact ⟨q0, q1⟩))).mono ?_
      rintro e w' ⟨rfl, h1, h2⟩
      exact ⟨_, rfl, h1.rd (by rw [cells2_length, hl]), by simp [Value.ownBlock], h2⟩
end Go.Proofs.Qxb6617231a

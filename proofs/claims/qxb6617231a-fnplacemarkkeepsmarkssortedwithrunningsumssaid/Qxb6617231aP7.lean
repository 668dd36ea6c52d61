import Derived.Test.Qxb6617231aP6
namespace Go.Proofs.Qxb6617231a
open Go.RowKit

set_option maxHeartbeats 400000 in
theorem markRows_nil (w : World) :
    Calls Try.prog 17 #[.slice none 0 0] w fun e w' => e = .returned (.slice (some ⟨w.heap.size, 0, none⟩) 0 0) ∧ w.heap.size < w'.heap.size ∧ Below w.heap.size w w' := by
  obtain ⟨i0, hi, hz0, hz1, hz2⟩ := info_parts Try.info63
  go_enter Try.func17, Try.ntmps17
  go_wp2_with (at_make; go_must (refine wpList_make_full _ rfl _ _ 43 rfl w.heap.size 63 i0 _ 3 Try.underlying43 hi hz0 hz1 _ _ _ _ 0 rfl rfl rfl rfl (by rw [hz2]; omega) (by unfold maxLen; omega) (Nat.le_refl _) ?_))
  intro w1 h1 h2
  have hb1 := below_grownBy h2
  have hl : w.heap.size < w1.heap.size := (h1.lt w.heap.size rfl).2
  clear h1 h2 hi hz0 hz1 hz2
  go_wp2_with fail
  refine wp_loop_rounds 1 ?_
  rw [rounds_succ]
  go_wp2
  go_ret
  exact ⟨rfl, hl, hb1⟩

theorem markRows_any (ms : List (Int × Int × Int)) (v : Value) (w : World) (hn : ms.length ≤ 4096) (h : Rd w 3 v ms.length (cells3 ms)) :
    Calls Try.prog 17 #[v] w fun e w' => ∃ v', e = .returned v' ∧ Rd w' 3 v' ms.length (cells3 ms) ∧ (∀ k, v'.ownBlock = some k → w.heap.size ≤ k) ∧ v' ≠ .slice none 0 0 ∧ Below w.heap.size w w' := by
  rcases h.form3 with ⟨rfl, rfl⟩ | ⟨g, cap, rfl, hg, hcap, hc⟩
  · refine (markRows_nil w).mono ?_
    rintro e w' ⟨rfl, h1, h2⟩
    exact ⟨_, rfl, ⟨rfl, .inr ⟨_, 0, rfl, h1, Nat.le_refl _, by simp [cells3]⟩⟩, by simp [Value.ownBlock], by simp, h2⟩
  · refine (markRows_some g ms.length cap (fun i => (ms.getD i (0, 0, 0)).1) (fun i => (ms.getD i (0, 0, 0)).2.1) (fun i => (ms.getD i (0, 0, 0)).2.2) (cells3 ms) (hide (cells3_get ms)) w hn hg (hide hc)).mono ?_
    rintro e w' ⟨rfl, h1, h2⟩
    exact ⟨_, rfl, h1.rd (cells3_length ms), by simp [Value.ownBlock], by simp, h2⟩

set_option maxHeartbeats 400000 in
theorem sameRows_some (g g' n cap cap' : Nat) (T O U : Nat → Int) (w : World) (hn : n ≤ 4096)
    (hc : Hid (∀ i, i < n → w.cell? ⟨g, i * 3, none⟩ = some (.int .i64 (T i)) ∧ w.cell? ⟨g, i * 3 + 1, none⟩ = some (.int .i64 (O i)) ∧ w.cell? ⟨g, i * 3 + 2, none⟩ = some (.int .i64 (U i))))
    (hc' : Hid (∀ i, i < n → w.cell? ⟨g', i * 3, none⟩ = some (.int .i64 (T i)) ∧ w.cell? ⟨g', i * 3 + 1, none⟩ = some (.int .i64 (O i)) ∧ w.cell? ⟨g', i * 3 + 2, none⟩ = some (.int .i64 (U i)))) :
    Calls Try.prog 19 #[.slice (some ⟨g, 0, none⟩) n cap, .slice (some ⟨g', 0, none⟩) n cap'] w fun e w' => e = .returned (.bool true) ∧ ∃ q, w' = w.drewN q := by
  go_enter Try.func19, Try.ntmps19
  go_wp2_with fail
  go_loopw [5] (fun i wr => ∃ k q : Nat, k ≤ n ∧ i = .int .i64 k ∧ wr = w.drewN q) (fun i _ => n - (intOf i).toNat)
  case atStart => exact ⟨0, 0, Nat.zero_le _, rfl, rfl⟩
  case round =>
    obtain ⟨k, q, hk, rfl, rfl⟩ := hrel
    by_cases hlt : k < n
    · obtain ⟨e0, e1, e2⟩ := hc.out k hlt
      obtain ⟨e0', e1', e2'⟩ := hc'.out k hlt
      go_wp2_with fail
      go_quiet (fail)
      clear e0 e1 e2 e0' e1' e2'
      go_wp2_with fail
      go_roundw
      case rel => exact ⟨k + 1, q + nq, by omega, by go_num, rfl⟩
      case measure => simp [intOf]; omega
    · go_wp2_with fail
      go_ret
      exact ⟨rfl, q, rfl⟩

theorem drewN_below (w : World) (q B : Nat) : Below B w (w.drewN q) := by
  induction q with
  | zero => exact Below.refl _ _
  | succ q ih => exact ih.trans (Below.drew (Below.refl _ _))

theorem sameRows_any (ms : List (Int × Int × Int)) (v v' : Value) (w : World) (hn : ms.length ≤ 4096) (h : Rd w 3 v ms.length (cells3 ms)) (h' : Rd w 3 v' ms.length (cells3 ms)) (hv : v ≠ .slice none 0 0) (hv' : v' ≠ .slice none 0 0) :
    Calls Try.prog 19 #[v, v'] w fun e w' => e = .returned (.bool true) ∧ Below w.heap.size w w' := by
  rcases h.form3 with ⟨rfl, _⟩ | ⟨g, cap, rfl, hg, hcap, hc⟩
  · exact absurd rfl hv
  · rcases h'.form3 with ⟨rfl, _⟩ | ⟨g', cap', rfl, hg', hcap', hc'⟩
    · exact absurd rfl hv'
    · refine (sameRows_some g g' ms.length cap cap' _ _ _ w hn (hide hc) (hide hc')).mono ?_
      rintro e w' ⟨rfl, q, rfl⟩
      exact ⟨rfl, drewN_below _ _ _⟩
end Go.Proofs.Qxb6617231a

import Derived.Test.Qxb6617231aE2
namespace Go.Proofs.Qxb6617231a
open Go.RowKit

set_option maxHeartbeats 1000000 in
theorem sameSt_some (g g' n cap cap' : Nat) (T : Nat → Int) (R : Nat → ByteArray) (w : World) (hn : n ≤ 65536)
    (hc : Hid (∀ i, i < n → w.cell? ⟨g, i * 2, none⟩ = some (.int .i64 (T i)) ∧ w.cell? ⟨g, i * 2 + 1, none⟩ = some (.string (R i))))
    (hc' : Hid (∀ i, i < n → w.cell? ⟨g', i * 2, none⟩ = some (.int .i64 (T i)) ∧ w.cell? ⟨g', i * 2 + 1, none⟩ = some (.string (R i)))) :
    Calls Try.prog 12 #[.slice (some ⟨g, 0, none⟩) n cap, .slice (some ⟨g', 0, none⟩) n cap'] w fun e w' => e = .returned (.bool true) ∧ Below w.heap.size w w' := by
  go_enter Try.func12, Try.ntmps12
  go_wp2_with fail
  go_loopw [5] (fun i wr => ∃ k q : Nat, k ≤ n ∧ i = .int .i64 k ∧ wr = w.drewN q) (fun i _ => n - (intOf i).toNat)
  case atStart => exact ⟨0, 0, Nat.zero_le _, rfl, rfl⟩
  case round =>
    obtain ⟨k, q, hk, rfl, rfl⟩ := hrel
    by_cases hlt : k < n
    · obtain ⟨e0, e1⟩ := hc.out k hlt
      obtain ⟨e0', e1'⟩ := hc'.out k hlt
      go_wp2_with fail
      go_quiet (fail)
      clear e0 e1 e0' e1'
      go_wp2_with fail
      go_roundw
      case rel => exact ⟨k + 1, q + nq, by omega, by go_num, rfl⟩
      case measure => simp [intOf]; omega
    · go_wp2_with fail
      go_ret
      exact ⟨rfl, drewB _ _ _⟩

set_option maxHeartbeats 400000 in
theorem sameSt_zero (a a' : Option Addr) (cap cap' : Nat) (w : World) :
    Calls Try.prog 12 #[.slice a 0 cap, .slice a' 0 cap'] w fun e w' => e = .returned (.bool true) ∧ Below w.heap.size w w' := by
  go_enter Try.func12, Try.ntmps12
  go_wp2_with fail
  refine wp_loop_rounds 1 ?_
  rw [rounds_succ]
  go_wp2_with fail
  go_ret
  exact ⟨rfl, Below.refl _ _⟩

/-- sameStamps of two that read alike -/
theorem sameSt_any (v v' : Value) (l : List (Int × ByteArray)) (w : World) (hn : l.length ≤ 65536) (h : Rd w 2 v l.length (cells2 l)) (h' : Rd w 2 v' l.length (cells2 l)) :
    Calls Try.prog 12 #[v, v'] w fun e w' => e = .returned (.bool true) ∧ Below w.heap.size w w' := by
  rcases h.formK (f := stC) (fun _ => rfl) st0 with ⟨rfl, rfl⟩ | ⟨g, cap, rfl, hg, hcap, hc⟩
  · rcases h'.2 with ⟨rfl, _⟩ | ⟨g', cap', rfl, _⟩
    · exact sameSt_zero none none 0 0 w
    · exact sameSt_zero none _ 0 cap' w
  · rcases h'.formK (f := stC) (fun _ => rfl) st0 with ⟨rfl, rfl⟩ | ⟨g', cap', rfl, hg', hcap', hc'⟩
    · exact sameSt_zero _ none cap 0 w
    · exact sameSt_some g g' l.length cap cap' (fun i => (l.getD i st0).1) (fun i => (l.getD i st0).2) w hn (hide (fun i hi => ⟨hc i 0 _ hi (by omega) rfl, hc i 1 _ hi (by omega) rfl⟩)) (hide (fun i hi => ⟨hc' i 0 _ hi (by omega) rfl, hc' i 1 _ hi (by omega) rfl⟩))

set_option maxHeartbeats 1000000 in
theorem bytesFolds_any (ab : Option Addr) (nb cb : Nat) (bl : List (Int × ByteArray)) (aw : Option Addr) (nw cw : Nat) (wl : List (Int × ByteArray × Int)) (p : Int) (w : World)
    (hnb : nb ≤ maxLen) (hnw : nw ≤ maxLen) (hB : Hid (StIn w ab nb bl)) (hW : Hid (WrIn w aw nw wl)) :
    Calls Try.prog 6 #[.slice ab nb cb, .slice aw nw cw, .int .i64 p] w fun e w' => AnyBool w e w' := by
  unfold maxLen at hnb hnw
  have hb0 : Below w.heap.size w w := Below.refl _ w
  by_cases h1 : 1048576 < nb
  · go_enter Try.func6, Try.ntmps6
    go_wp2
    go_ret
    exact ⟨false, rfl, hb0⟩
  have d1 : decide ((1048576 : Int) < (nb : Int)) = false := by simp; omega
  go_enter Try.func6, Try.ntmps6
  go_wp2
  go_loop [7, 8] (fun t i => ∃ (z : Int) (k : Nat), k ≤ nb ∧ t = .int .i64 z ∧ i = .int .i64 k) (fun _ i => nb - (intOf i).toNat)
  case atStart => exact ⟨_, 0, Nat.zero_le _, rfl, rfl⟩
  case round =>
    obtain ⟨z, k, hk, rfl, rfl⟩ := hrel
    by_cases hlt : k < nb
    · obtain ⟨b, off, rfl, _, e1⟩ := hB.out.2 k hlt
      obtain ⟨R, hR⟩ : ∃ R, R = (bl.getD k st0).2 := ⟨_, rfl⟩
      rw [← hR] at e1
      clear hR
      go_wp2
      · go_ret
        exact ⟨false, rfl, hb0⟩
      · go_ret
        exact ⟨false, rfl, hb0⟩
      · go_round
        case rel => exact ⟨_, k + 1, by omega, rfl, by go_num⟩
        case measure => simp [intOf]; omega
    · by_cases h2 : 1048576 < nw
      · go_wp2
        go_ret
        exact ⟨false, rfl, hb0⟩
      · have d2 : decide ((1048576 : Int) < (nw : Int)) = false := by simp; omega
        by_cases h4 : 1048576 < wrap64 (z + (nw : Int))
        · go_wp2
          go_ret
          exact ⟨false, rfl, hb0⟩
        have d4 : decide (1048576 < wrap64 (z + (nw : Int))) = false := by simp; omega
        go_wp2
        go_loop [7, 9] (fun t i => ∃ (z : Int) (k : Nat), k ≤ nw ∧ t = .int .i64 z ∧ i = .int .i64 k) (fun _ i => nw - (intOf i).toNat)
        case atStart => exact ⟨_, 0, Nat.zero_le _, rfl, rfl⟩
        case round =>
          obtain ⟨z', k', hk', rfl, rfl⟩ := hrel
          by_cases hlt' : k' < nw
          · obtain ⟨b, off, rfl, _, e1, _⟩ := hW.out.2 k' hlt'
            obtain ⟨R, hR⟩ : ∃ R, R = (wl.getD k' wr0).2.1 := ⟨_, rfl⟩
            rw [← hR] at e1
            clear hR
            go_wp2
            · go_ret
              exact ⟨false, rfl, hb0⟩
            · go_ret
              exact ⟨false, rfl, hb0⟩
            · go_round
              case rel => exact ⟨_, k' + 1, by omega, rfl, by go_num⟩
              case measure => simp [intOf]; omega
          · go_wp2
            go_ret
            exact ⟨true, rfl, hb0⟩
end Go.Proofs.Qxb6617231a

import Derived.Test.Qxb6617231aRows
import Derived.WalkLawsBesides
import Derived.Test.Qxb6617231aD1
namespace Go.Proofs.Qxb6617231a
open Go.RowKit

/-- decTooBig's answer: where it says no, both lists are short -/
def BigPost (w : World) (nb nw : Nat) (e : Ending) (w' : World) : Prop := ∃ bb : Bool, e = .returned (.bool bb) ∧ w = w' ∧ (bb = false → nb ≤ 4096 ∧ nw ≤ 4096)
/-- a bool comes back; nothing that was there has turned -/
def AnyBool (w : World) (e : Ending) (w' : World) : Prop := ∃ bb : Bool, e = .returned (.bool bb) ∧ Below w.heap.size w w'

set_option maxHeartbeats 1000000 in
theorem tooBig_any (ab : Option Addr) (nb cb : Nat) (bl : List (Int × ByteArray)) (aw : Option Addr) (nw cw : Nat) (wl : List (Int × ByteArray × Int)) (ex : ByteArray) (w : World)
    (hnb : nb ≤ maxLen) (hnw : nw ≤ maxLen) (hB : Hid (StIn w ab nb bl)) (hW : Hid (WrIn w aw nw wl)) :
    Calls Try.prog 7 #[.slice ab nb cb, .slice aw nw cw, .string ex] w fun e w' => BigPost w nb nw e w' := by
  unfold maxLen at hnb hnw
  by_cases h1 : 4096 < nb
  · go_enter Try.func7, Try.ntmps7
    go_wp2
    go_ret
    exact ⟨true, rfl, rfl, by simp⟩
  by_cases h2 : 4096 < nw
  · go_enter Try.func7, Try.ntmps7
    go_wp2
    go_ret
    exact ⟨true, rfl, rfl, by simp⟩
  by_cases h3 : 1048576 < ex.size
  · go_enter Try.func7, Try.ntmps7
    go_wp2
    go_ret
    exact ⟨true, rfl, rfl, by simp⟩
  have d1 : decide ((4096 : Int) < (nb : Int)) = false := by simp; omega
  have d2 : decide ((4096 : Int) < (nw : Int)) = false := by simp; omega
  have d3 : decide ((1048576 : Int) < (ex.size : Int)) = false := by simp; omega
  go_enter Try.func7, Try.ntmps7
  go_wp2
  go_loop [7, 8] (fun t i => ∃ (z : Int) (k : Nat), k ≤ nb ∧ t = .int .i64 z ∧ i = .int .i64 k) (fun _ i => nb - (intOf i).toNat)
  case atStart => exact ⟨_, 0, Nat.zero_le _, rfl, rfl⟩
  case round =>
    obtain ⟨z, k, hk, rfl, rfl⟩ := hrel
    by_cases hlt : k < nb
    · obtain ⟨b, off, rfl, _, e1⟩ := hB.out.2 k hlt
      obtain ⟨R, hR⟩ : ∃ R, R = (bl.getD k st0).2 := ⟨_, rfl⟩
      rw [← hR] at e1
      clear hR
      go_wp2
      · go_ret
        exact ⟨true, rfl, rfl, by simp⟩
      · go_ret
        exact ⟨true, rfl, rfl, by simp⟩
      · go_round
        case rel => exact ⟨_, k + 1, by omega, rfl, by go_num⟩
        case measure => simp [intOf]; omega
    · go_wp2
      go_loop [7, 9] (fun t i => ∃ (z : Int) (k : Nat), k ≤ nw ∧ t = .int .i64 z ∧ i = .int .i64 k) (fun _ i => nw - (intOf i).toNat)
      case atStart => exact ⟨_, 0, Nat.zero_le _, rfl, rfl⟩
      case round =>
        obtain ⟨z', k', hk', rfl, rfl⟩ := hrel
        by_cases hlt' : k' < nw
        · obtain ⟨b, off, rfl, _, e1, _⟩ := hW.out.2 k' hlt'
          obtain ⟨R, hR⟩ : ∃ R, R = (wl.getD k' wr0).2.1 := ⟨_, rfl⟩
          rw [← hR] at e1
          clear hR
          go_wp2
          · go_ret
            exact ⟨true, rfl, rfl, by simp⟩
          · go_ret
            exact ⟨true, rfl, rfl, by simp⟩
          · go_round
            case rel => exact ⟨_, k' + 1, by omega, rfl, by go_num⟩
            case measure => simp [intOf]; omega
        · go_wp2
          go_ret
          exact ⟨false, rfl, rfl, fun _ => ⟨by omega, by omega⟩⟩

set_option maxHeartbeats 1000000 in
theorem bytesPut_any (ab : Option Addr) (nb cb : Nat) (bl : List (Int × ByteArray)) (aw : Option Addr) (nw cw : Nat) (wl : List (Int × ByteArray × Int)) (p t o : Int) (r : ByteArray) (w : World)
    (hnb : nb ≤ maxLen) (hnw : nw ≤ maxLen) (hB : Hid (StIn w ab nb bl)) (hW : Hid (WrIn w aw nw wl)) :
    Calls Try.prog 13 #[.slice ab nb cb, .slice aw nw cw, .int .i64 p, .agg #[.int .i64 t, .string r, .int .u8 o]] w fun e w' => AnyBool w e w' := by
  unfold maxLen at hnb hnw
  have hb0 : Below w.heap.size w (w.alloc (.cells #[.int .i64 t, .string r, .int .u8 o] 34)) := (Below.refl _ w).alloc (Nat.le_refl _) _
  by_cases h1 : 1048576 < nb
  · go_enter Try.func13, Try.ntmps13
    go_wp2
    go_ret
    exact ⟨false, rfl, hb0⟩
  have d1 : decide ((1048576 : Int) < (nb : Int)) = false := by simp; omega
  go_enter Try.func13, Try.ntmps13
  go_wp2
  go_loop [9, 10] (fun t i => ∃ (z : Int) (k : Nat), k ≤ nb ∧ t = .int .i64 z ∧ i = .int .i64 k) (fun _ i => nb - (intOf i).toNat)
  case atStart => exact ⟨_, 0, Nat.zero_le _, rfl, rfl⟩
  case round =>
    obtain ⟨z, k, hk, rfl, rfl⟩ := hrel
    by_cases hlt : k < nb
    · obtain ⟨b, off, rfl, _, e1⟩ := hB.out.2 k hlt
      obtain ⟨R, hR⟩ : ∃ R, R = (bl.getD k st0).2 := ⟨_, rfl⟩
      rw [← hR] at e1
      have e1' : ∀ o, (w.alloc o).cell? ⟨b, off + k * 2 + 1, none⟩ = some (.string R) := fun o => cell_later ((Below.refl _ w).alloc (Nat.le_refl _) _) e1
      clear hR e1
      go_wp2
      · go_ret
        exact ⟨false, rfl, hb0⟩
      · go_ret
        exact ⟨false, rfl, hb0⟩
      · go_round
        case rel => exact ⟨_, k + 1, by omega, rfl, by go_num⟩
        case measure => simp [intOf]; omega
    · by_cases h2 : 1048576 < nw
      · go_wp2
        go_ret
        exact ⟨false, rfl, hb0⟩
      · have d2 : decide ((1048576 : Int) < (nw : Int)) = false := by simp; omega
        by_cases h4 : 1048576 < wrap64 (z + (nw : Int))
        · go_wp2
          go_ret
          exact ⟨false, rfl, hb0⟩
        have d4 : decide (1048576 < wrap64 (z + (nw : Int))) = false := by simp; omega
        go_wp2
        go_loop [9, 11] (fun t i => ∃ (z : Int) (k : Nat), k ≤ nw ∧ t = .int .i64 z ∧ i = .int .i64 k) (fun _ i => nw - (intOf i).toNat)
        case atStart => exact ⟨_, 0, Nat.zero_le _, rfl, rfl⟩
        case round =>
          obtain ⟨z', k', hk', rfl, rfl⟩ := hrel
          by_cases hlt' : k' < nw
          · obtain ⟨b, off, rfl, _, e1, _⟩ := hW.out.2 k' hlt'
            obtain ⟨R, hR⟩ : ∃ R, R = (wl.getD k' wr0).2.1 := ⟨_, rfl⟩
            rw [← hR] at e1
            have e1' : ∀ o, (w.alloc o).cell? ⟨b, off + k' * 3 + 1, none⟩ = some (.string R) := fun o => cell_later ((Below.refl _ w).alloc (Nat.le_refl _) _) e1
            clear hR e1
            go_wp2
            · go_ret
              exact ⟨false, rfl, hb0⟩
            · go_ret
              exact ⟨false, rfl, hb0⟩
            · go_round
              case rel => exact ⟨_, k' + 1, by omega, rfl, by go_num⟩
              case measure => simp [intOf]; omega
          · go_wp2
            · go_ret
              exact ⟨false, rfl, hb0⟩
            · go_ret
              exact ⟨false, rfl, hb0⟩
            · go_ret
              exact ⟨true, rfl, hb0⟩
end Go.Proofs.Qxb6617231a

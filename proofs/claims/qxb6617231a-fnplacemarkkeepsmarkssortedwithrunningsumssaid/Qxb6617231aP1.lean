import Derived.Test.Qxb6617231aRows
import Derived.WalkKit
import Derived.WalkSpells
import Derived.WalkLawsBesides
namespace Go.Proofs.Qxb6617231a
open Go.RowKit

/-- a mark's value -/
def mk (t o u : Int) : Value := .agg #[.int .i64 t, .int .i64 o, .int .i64 u]

set_option maxHeartbeats 400000 in
theorem markTime_any (t o u : Int) (w : World) :
    Calls Try.prog 20 #[.agg #[.int .i64 t, .int .i64 o, .int .i64 u]] w fun e w' => e = .returned (.int .i64 t) ∧ w' = w.alloc (.cells #[.int .i64 t, .int .i64 o, .int .i64 u] 51) := by
  go_enter Try.func20, Try.ntmps20
  go_wp2
  go_ret
  exact ⟨rfl, rfl⟩
set_option maxHeartbeats 400000 in
theorem markOff_any (t o u : Int) (w : World) :
    Calls Try.prog 21 #[.agg #[.int .i64 t, .int .i64 o, .int .i64 u]] w fun e w' => e = .returned (.int .i64 o) ∧ w' = w.alloc (.cells #[.int .i64 t, .int .i64 o, .int .i64 u] 51) := by
  go_enter Try.func21, Try.ntmps21
  go_wp2
  go_ret
  exact ⟨rfl, rfl⟩
set_option maxHeartbeats 400000 in
theorem markUpto_any (t o u : Int) (w : World) :
    Calls Try.prog 22 #[.agg #[.int .i64 t, .int .i64 o, .int .i64 u]] w fun e w' => e = .returned (.int .i64 u) ∧ w' = w.alloc (.cells #[.int .i64 t, .int .i64 o, .int .i64 u] 51) := by
  go_enter Try.func22, Try.ntmps22
  go_wp2
  go_ret
  exact ⟨rfl, rfl⟩

set_option maxHeartbeats 400000 in
theorem cmp_low (t o u x : Int) (h : t ≤ x) (w : World) :
    Calls Try.prog 39 #[.agg #[.int .i64 t, .int .i64 o, .int .i64 u], .int .i64 x] w fun e w' => e = .returned (.int .i64 (-1)) ∧ w' = w.alloc (.cells #[.int .i64 t, .int .i64 o, .int .i64 u] 51) := by
  go_enter Try.func39, Try.ntmps39
  go_wp2
  go_ret
  exact ⟨rfl, rfl⟩
set_option maxHeartbeats 400000 in
theorem cmp_high (t o u x : Int) (h : x < t) (w : World) :
    Calls Try.prog 39 #[.agg #[.int .i64 t, .int .i64 o, .int .i64 u], .int .i64 x] w fun e w' => e = .returned (.int .i64 1) ∧ w' = w.alloc (.cells #[.int .i64 t, .int .i64 o, .int .i64 u] 51) := by
  go_enter Try.func39, Try.ntmps39
  go_wp2
  go_ret
  exact ⟨rfl, rfl⟩

set_option maxHeartbeats 400000 in
theorem bytes_no (a : Option Addr) (n c : Nat) (hn : n ≤ maxLen) (h : 1048576 < n) (w : World) :
    Calls Try.prog 16 #[.slice a n c] w fun e w' => e = .returned (.bool false) ∧ w = w' := by
  unfold maxLen at hn
  go_enter Try.func16, Try.ntmps16
  go_wp2
  go_ret
  exact ⟨rfl, rfl⟩
set_option maxHeartbeats 400000 in
theorem bytes_yes (a : Option Addr) (n c : Nat) (h : n ≤ 1048576) (w : World) :
    Calls Try.prog 16 #[.slice a n c] w fun e w' => e = .returned (.bool true) ∧ w = w' := by
  go_enter Try.func16, Try.ntmps16
  go_wp2
  go_ret
  exact ⟨rfl, rfl⟩
end Go.Proofs.Qxb6617231a

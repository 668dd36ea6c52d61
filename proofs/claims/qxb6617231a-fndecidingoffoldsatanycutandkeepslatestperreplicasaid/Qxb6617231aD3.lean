import Derived.Test.Qxb6617231aD2
import Derived.BigQuiet
import Derived.Deep.QuietTactic
namespace Go.Proofs.Qxb6617231a
open Go.RowKit

theorem Try.info38 : (Try.prog.info? 38).map (fun i => (i.zero, i.size, i.bytes)) = some (some (.agg #[.int .i64 0, .string ByteArray.empty]), 2, 24) := by kernel_rfl

set_option maxHeartbeats 400000 in
theorem isRepl_any (s : Int × ByteArray × Int) (w : World) :
    Calls Try.prog 14 #[.int .u8 s.2.2] w fun e w' => e = .returned (.bool (repl s)) ∧ w = w' := by
  unfold repl
  obtain ⟨a, b, o⟩ := s
  show Calls Try.prog 14 #[.int .u8 o] w fun e w' => e = .returned (.bool (o == 1 || o == 4)) ∧ w = w'
  by_cases h1 : (o == 1) = true
  · go_enter Try.func14, Try.ntmps14
    go_wp2
    go_ret
    exact ⟨by simp [h1], rfl⟩
  · have h1' : (o == 1) = false := by simpa using h1
    go_enter Try.func14, Try.ntmps14
    go_wp2
    go_ret
    exact ⟨by simp [h1'], rfl⟩

set_option maxHeartbeats 400000 in
theorem replaces_any (s : Int × ByteArray × Int) (w : World) :
    Calls Try.prog 35 #[.agg (swC s).toArray] w fun e w' => e = .returned (.bool (repl s)) ∧ w.alloc (.cells (swC s).toArray 57) = w' := by
  unfold repl swC
  obtain ⟨a, b, o⟩ := s
  by_cases h1 : (o == 1) = true
  · go_enter Try.func35, Try.ntmps35
    go_wp2
    go_ret
    exact ⟨by simp [h1], rfl⟩
  · have h1' : (o == 1) = false := by simpa using h1
    go_enter Try.func35, Try.ntmps35
    go_wp2
    go_ret
    exact ⟨by simp [h1'], rfl⟩

set_option maxHeartbeats 400000 in
theorem closure_any (t : Int) (r rs : ByteArray) (p : Nat) (w : World) (hp : w.cell? ⟨p, 1, none⟩ = some (.string rs)) :
    Calls Try.prog 37 #[.agg #[.int .i64 t, .string r], .pointer (some ⟨p, 0, none⟩)] w fun e w' => e = .returned (.bool (eqs r rs)) ∧ w.alloc (.cells #[.int .i64 t, .string r] 38) = w' := by
  unfold eqs
  have hp' : ∀ o, (w.alloc o).cell? ⟨p, 1, none⟩ = some (.string rs) := fun o => cell_later ((Below.refl _ w).alloc (Nat.le_refl _) _) hp
  go_enter Try.func37, Try.ntmps37
  go_wp2
  go_ret
  exact ⟨rfl, rfl⟩

/-- what IndexFunc finds: the first of that replica, or none -/
def Found (n : Nat) (R : Nat → ByteArray) (rs : ByteArray) (z : Int) : Prop :=
  (∃ i : Nat, i < n ∧ z = (i : Int) ∧ (∀ j, j < i → eqs (R j) rs = false) ∧ eqs (R i) rs = true) ∨ (z = -1 ∧ ∀ j, j < n → eqs (R j) rs = false)

set_option maxHeartbeats 400000 in
theorem index_any (ao : Option Addr) (n cap : Nat) (T : Nat → Int) (R : Nat → ByteArray) (rs : ByteArray) (p : Nat) (w : World) (hn : n ≤ maxLen) (hp : Hid (w.cell? ⟨p, 1, none⟩ = some (.string rs)))
    (hc : Hid (∀ i, i < n → ∃ b off, ao = some ⟨b, off, none⟩ ∧ w.cell? ⟨b, off + i * 2, none⟩ = some (.int .i64 (T i)) ∧ w.cell? ⟨b, off + i * 2 + 1, none⟩ = some (.string (R i)))) :
    Calls Try.prog 36 #[.slice ao n cap, .func (.func 37) #[] #[.pointer (some ⟨p, 0, none⟩)]] w fun e w' => ∃ z, e = .returned (.int .i64 z) ∧ Found n R rs z ∧ Below w.heap.size w w' := by
  unfold maxLen at hn
  go_enter Try.func36, Try.ntmps36
  go_wp2
  go_loopw [8] (fun i wr => ∃ k : Nat, k ≤ n ∧ i = .int .i64 k ∧ Hid (∀ j, j < k → eqs (R j) rs = false) ∧ Below w.heap.size w wr) (fun i _ => n - (intOf i).toNat)
  case atStart => exact ⟨0, Nat.zero_le _, rfl, hide (fun j hj => absurd hj (by omega)), Below.refl _ _⟩
  case round =>
    obtain ⟨k, hk, rfl, hno, hbk⟩ := hrel
    by_cases hlt : k < n
    · obtain ⟨b, off, rfl, c0, c1⟩ := hc.out k hlt
      have e0 : wr.cell? ⟨b, off + k * 2, none⟩ = some (.int .i64 (T k)) := cell_later hbk c0
      have e1 : wr.cell? ⟨b, off + k * 2 + 1, none⟩ = some (.string (R k)) := cell_later hbk c1
      clear c0 c1
      have H37 := closure_any (T k) (R k) rs p wr (cell_later hbk hp.out)
      cases he : eqs (R k) rs with
      | true =>
        rw [he] at H37
        have HE := hide he
        clear he
        go_wp2_with (go_at_call 37; refine H37.mono ?_; clear H37; rintro e w' ⟨rfl, rfl⟩)
        go_ret
        exact ⟨_, rfl, .inl ⟨k, hlt, rfl, hno.out, HE.out⟩, hbk.alloc hbk.size _⟩
      | false =>
        rw [he] at H37
        have HE := hide he
        clear he
        go_wp2_with (go_at_call 37; refine H37.mono ?_; clear H37; rintro e w' ⟨rfl, rfl⟩)
        go_roundw
        case rel =>
          refine ⟨k + 1, by omega, by go_num, hide (fun j hj => ?_), hbk.alloc hbk.size _⟩
          by_cases e : j = k
          · subst e; exact HE.out
          · exact hno.out j (by omega)
        case measure => simp [intOf]; omega
    · obtain rfl : n = k := by omega
      go_wp2_with fail
      go_ret
      exact ⟨_, rfl, .inr ⟨rfl, hno.out⟩, hbk⟩
end Go.Proofs.Qxb6617231a

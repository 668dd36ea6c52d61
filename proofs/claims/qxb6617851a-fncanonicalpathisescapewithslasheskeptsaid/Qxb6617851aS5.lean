import Derived.Test.Qxb6617851aS4
import Derived.BigQuiet
import Derived.Deep.QuietTactic
namespace Go.Proofs.Qxb6617851a
open Go.RowKit
attribute [local go_sem ↓] Go.wp_at_zero Go.wp_at_succ

/-! the plain laws of a credential part -/
theorem cred_nil : cred [] = false := rfl
theorem cred_ne {l : List UInt8} (h : l ≠ []) : cred l = l.all okB := by
  unfold cred
  cases l with
  | nil => exact absurd rfl h
  | cons a l => rfl
theorem cred_cut (l : List UInt8) (k : Nat) (h0 : 0 < k) (h1 : k < l.length) : cred l = (cred (l.take k) && cred (l.drop k)) := by
  have hl : l ≠ [] := by rintro rfl; simp at h1
  have ht : l.take k ≠ [] := by
    intro h
    have := congrArg List.length h
    rw [List.length_take, List.length_nil] at this
    omega
  have hd : l.drop k ≠ [] := by
    intro h
    have := congrArg List.length h
    rw [List.length_drop, List.length_nil] at this
    omega
  rw [cred_ne hl, cred_ne ht, cred_ne hd, ← List.all_append, List.take_append_drop]
theorem cred_slash (a b : List UInt8) (c : UInt8) (h : okB c = false) : cred (a ++ c :: b) = false := by
  rw [cred_ne (by simp), List.all_append, List.all_cons, h]
  simp

theorem okB_of (c : UInt8) (h : 32 < c.toNat ∧ c.toNat < 127 ∧ c.toNat ≠ 47 ∧ c.toNat ≠ 44) : okB c = true := decide_eq_true h
theorem okB_hex (n : Nat) (h : n < 16) : okB (hexU n) = true := by
  have : ∀ n : Fin 16, okB (hexU n.val) = true := by decide +kernel
  exact this ⟨n, h⟩
theorem escB_ok (c : UInt8) : (escB false c).all okB = true := by
  have hc := c.toNat_lt
  unfold escB
  by_cases hk : keepB false c = true
  · rw [if_pos hk]
    unfold keepB at hk
    simp only [Bool.or_eq_true, Bool.and_eq_true, decide_eq_true_eq, Bool.false_eq_true, and_false, or_false] at hk
    have := okB_of c (by omega)
    simp [this]
  · rw [if_neg hk]
    have h1 := okB_hex (c.toNat / 16) (by omega)
    have h2 := okB_hex (c.toNat % 16) (by omega)
    have h3 : okB 37 = true := by decide
    simp [h1, h2, h3]
theorem escB_ne (ks : Bool) (c : UInt8) : escB ks c ≠ [] := by
  unfold escB
  split <;> simp
theorem esc_ok (l : List UInt8) : (esc false l).all okB = true := by
  induction l with
  | nil => rfl
  | cons c l ih =>
    unfold esc at ih ⊢
    rw [List.flatMap_cons, List.all_append, escB_ok, ih]
    rfl
theorem esc_ne (ks : Bool) {l : List UInt8} (h : l ≠ []) : esc ks l ≠ [] := by
  cases l with
  | nil => exact absurd rfl h
  | cons c l =>
    unfold esc
    rw [List.flatMap_cons]
    intro h
    exact escB_ne ks c (List.append_eq_nil_iff.1 h).1
theorem cred_esc {l : List UInt8} (h : l ≠ []) : cred (esc false l) = true := by rw [cred_ne (esc_ne false h), esc_ok]

theorem data_ne {s : ByteArray} (h : 0 < s.size) : s.data.toList ≠ [] := by
  intro h1
  have := congrArg List.length h1
  simp at this
  rw [this] at h
  exact absurd h (by decide)

theorem left_list (s : ByteArray) (k : Nat) : (s.extract 0 k).data.toList = s.data.toList.take k := by
  rw [ByteArray.data_extract, Array.toList_extract]
  simp [List.extract]
theorem right_list (s : ByteArray) (k : Nat) : (s.extract k s.size).data.toList = s.data.toList.drop k := by
  rw [ByteArray.data_extract, Array.toList_extract]
  unfold List.extract
  refine List.take_of_length_le ?_
  rw [List.length_drop]
  exact Nat.le_refl _
theorem glued_list (s : ByteArray) (k : Nat) (c : UInt8) : (s.extract 0 k ++ ⟨#[c]⟩ ++ s.extract k s.size).data.toList = s.data.toList.take k ++ c :: s.data.toList.drop k := by
  rw [ByteArray.data_append, ByteArray.data_append, Array.toList_append, Array.toList_append, left_list, right_list]
  simp

set_option maxHeartbeats 400000 in
theorem bytes8_no (s : ByteArray) (k : Int) (hn : s.size ≤ maxLen) (h : 1048576 < s.size) (w : World) :
    Calls Try.prog 8 #[.string s, .int .i64 k] w fun e w' => e = .returned (.bool false) ∧ w = w' := by
  unfold maxLen at hn
  go_enter Try.func8, Try.ntmps8
  go_wp2
  go_ret
  exact ⟨rfl, rfl⟩
set_option maxHeartbeats 400000 in
theorem bytes8_yes (s : ByteArray) (k : Int) (h : s.size ≤ 1048576) (w : World) :
    Calls Try.prog 8 #[.string s, .int .i64 k] w fun e w' => e = .returned (.bool true) ∧ w = w' := by
  go_enter Try.func8, Try.ntmps8
  go_wp2
  go_ret
  exact ⟨rfl, rfl⟩
set_option maxHeartbeats 400000 in
theorem bytes11_no (s : ByteArray) (hn : s.size ≤ maxLen) (h : 1048576 < s.size) (w : World) :
    Calls Try.prog 11 #[.string s] w fun e w' => e = .returned (.bool false) ∧ w = w' := by
  unfold maxLen at hn
  go_enter Try.func11, Try.ntmps11
  go_wp2
  go_ret
  exact ⟨rfl, rfl⟩
set_option maxHeartbeats 400000 in
theorem bytes11_yes (s : ByteArray) (h : s.size ≤ 1048576) (w : World) :
    Calls Try.prog 11 #[.string s] w fun e w' => e = .returned (.bool true) ∧ w = w' := by
  go_enter Try.func11, Try.ntmps11
  go_wp2
  go_ret
  exact ⟨rfl, rfl⟩
set_option maxHeartbeats 400000 in
theorem bytes15_no (s : ByteArray) (k : Bool) (hn : s.size ≤ maxLen) (h : 1048576 < s.size) (w : World) :
    Calls Try.prog 15 #[.string s, .bool k] w fun e w' => e = .returned (.bool false) ∧ w = w' := by
  unfold maxLen at hn
  go_enter Try.func15, Try.ntmps15
  go_wp2
  go_ret
  exact ⟨rfl, rfl⟩
set_option maxHeartbeats 400000 in
theorem bytes15_yes (s : ByteArray) (k : Bool) (h : s.size ≤ 1048576) (w : World) :
    Calls Try.prog 15 #[.string s, .bool k] w fun e w' => e = .returned (.bool true) ∧ w = w' := by
  go_enter Try.func15, Try.ntmps15
  go_wp2
  go_ret
  exact ⟨rfl, rfl⟩
set_option maxHeartbeats 400000 in
theorem bytes17_no (s : ByteArray) (hn : s.size ≤ maxLen) (h : 1048576 < s.size) (w : World) :
    Calls Try.prog 17 #[.string s] w fun e w' => e = .returned (.bool false) ∧ w = w' := by
  unfold maxLen at hn
  go_enter Try.func17, Try.ntmps17
  go_wp2
  go_ret
  exact ⟨rfl, rfl⟩
set_option maxHeartbeats 400000 in
theorem bytes17_yes (s : ByteArray) (h : s.size ≤ 1048576) (w : World) :
    Calls Try.prog 17 #[.string s] w fun e w' => e = .returned (.bool true) ∧ w = w' := by
  go_enter Try.func17, Try.ntmps17
  go_wp2
  go_ret
  exact ⟨rfl, rfl⟩
end Go.Proofs.Qxb6617851a

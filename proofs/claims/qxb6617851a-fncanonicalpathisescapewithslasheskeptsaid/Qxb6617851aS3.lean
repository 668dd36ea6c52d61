import Derived.Test.Qxb6617851aS2
namespace Go.Proofs.Qxb6617851a
open Go.RowKit
attribute [local go_sem ↓] Go.wp_at_zero Go.wp_at_succ

theorem ret_bool {a b : Bool} (h : a = b) : Ending.returned (.bool a) = .returned (.bool b) := by rw [h]

/-- a byte that a credential part may hold -/
def okB (c : UInt8) : Bool := decide (32 < c.toNat ∧ c.toNat < 127 ∧ c.toNat ≠ 47 ∧ c.toNat ≠ 44)
/-- a credential part -/
def cred (l : List UInt8) : Bool := !l.isEmpty && l.all okB

theorem cred_no (s : ByteArray) (k : Nat) (h : k < s.size) (hk : okB s[k] = false) : false = cred s.data.toList := by
  symm
  unfold cred
  rw [Bool.and_eq_false_iff]
  refine .inr ?_
  rw [← Bool.not_eq_true, List.all_eq_true]
  intro ha
  have := ha s[k] (Array.mem_toList_iff.2 (Array.getElem_mem (xs := s.data) (i := k) h))
  rw [hk] at this
  cases this

theorem all_step (s : ByteArray) (k : Nat) (h : k < s.size) (ha : (s.data.toList.take k).all okB = true) (hk : okB s[k] = true) : (s.data.toList.take (k + 1)).all okB = true := by
  rw [List.take_succ_eq_append_getElem (by simpa using h), List.all_append, ha]
  show (true && (okB s[k] && true)) = true
  rw [hk]
  rfl

theorem empty_ne {s : ByteArray} (h : 0 < s.size) : s.toList.isEmpty = false := by
  rw [ByteArray.toList_eq, ← Bool.not_eq_true]
  intro h1
  obtain ⟨d⟩ := s
  simp at h1
  subst h1
  exact absurd h (by decide)

set_option maxRecDepth 4000 in
set_option maxHeartbeats 1000000 in
theorem isCred_any (s : ByteArray) (w : World) (hs : s.size ≤ 1000000) :
    Calls Try.prog 19 #[.string s] w fun e w' => e = .returned (.bool (cred s.data.toList)) ∧ w = w' := by
  obtain ⟨C, hC⟩ : ∃ C, C = cred s.data.toList := ⟨_, rfl⟩
  rw [← hC]
  have HC := hide hC
  clear hC
  by_cases h0 : s.size = 0
  · obtain rfl : s = ⟨#[]⟩ := by
      obtain ⟨d⟩ := s
      have : d = #[] := Array.eq_empty_of_size_eq_zero h0
      rw [this]
    go_enter Try.func19, Try.ntmps19
    go_wp2_with fail
    go_ret
    rw [HC.out]
    exact ⟨rfl, rfl⟩
  · have he := empty_ne (s := s) (by omega)
    go_enter Try.func19, Try.ntmps19
    go_wp2_with fail
    go_loopw [3] (fun i wr => ∃ k : Nat, k ≤ s.size ∧ i = .int .i64 k ∧ Hid ((s.data.toList.take k).all okB = true) ∧ w = wr) (fun i _ => s.size - (intOf i).toNat)
    case atStart => exact ⟨0, Nat.zero_le _, rfl, hide rfl, rfl⟩
    case round =>
      obtain ⟨k, hk, rfl, HA, rfl⟩ := hrel
      by_cases hlt : k < s.size
      · have hx0 : (0 : Int) ≤ (s[k].toNat : Int) := by omega
        have hx1 : (s[k].toNat : Int) ≤ 255 := by have := s[k].toNat_lt; omega
        by_cases hok : okB s[k] = true
        · have HK := hide (all_step s k hlt HA.out hok)
          clear HA
          have ho : 32 < s[k].toNat ∧ s[k].toNat < 127 ∧ s[k].toNat ≠ 47 ∧ s[k].toNat ≠ 44 := by simpa [okB] using hok
          clear hok
          obtain ⟨o1, o2, o3, o4⟩ := ho
          have t1 : ((s[k].toNat : Int) == 47) = false := by rw [beq_eq_false_iff_ne]; omega
          have t2 : ((s[k].toNat : Int) == 44) = false := by rw [beq_eq_false_iff_ne]; omega
          clear o3 o4
          go_wp2_with fail
          go_roundw
          case rel => exact ⟨k + 1, by omega, by go_num, HK, by trivial⟩
          case measure => simp [intOf]; omega
        · have hok : okB s[k] = false := by simpa using hok
          have HK := hide (cred_no s k hlt hok)
          clear HA
          have ho : (s[k].toNat : Int) ≤ 32 ∨ 127 ≤ (s[k].toNat : Int) ∨ (s[k].toNat : Int) = 47 ∨ (s[k].toNat : Int) = 44 := by
            have := of_decide_eq_false hok
            omega
          clear hok
          rw [← HC.out] at HK
          clear HC
          rcases ho with o | o | o | o
          · go_wp2_with fail
            go_ret
            exact ⟨ret_bool HK.out, rfl⟩
          · go_wp2_with fail
            go_ret
            exact ⟨ret_bool HK.out, rfl⟩
          · have t1 : ((s[k].toNat : Int) == 47) = true := by rw [beq_iff_eq]; exact o
            have oa := Int.le_of_eq o
            have ob := Int.le_of_eq o.symm
            clear o
            go_wp2_with fail
            go_ret
            exact ⟨ret_bool HK.out, rfl⟩
          · have t1 : ((s[k].toNat : Int) == 47) = false := by rw [beq_eq_false_iff_ne]; omega
            have t2 : ((s[k].toNat : Int) == 44) = true := by rw [beq_iff_eq]; exact o
            have oa := Int.le_of_eq o
            have ob := Int.le_of_eq o.symm
            clear o
            go_wp2_with fail
            go_ret
            exact ⟨ret_bool HK.out, rfl⟩
      · obtain rfl : k = s.size := by omega
        have HK : Hid (true = C) := hide (by
          rw [HC.out]
          symm
          unfold cred
          have := HA.out
          rw [List.take_of_length_le (by simp)] at this
          rw [this, Bool.and_true]
          simp
          intro h
          apply h0
          obtain ⟨d⟩ := s
          simp at h
          rw [h]
          rfl)
        clear HA HC
        go_wp2_with fail
        go_ret
        exact ⟨ret_bool HK.out, rfl⟩

set_option maxHeartbeats 400000 in
theorem zzIsCred_any (s : ByteArray) (w : World) (hs : s.size ≤ 1000000) :
    Calls Try.prog 9 #[.string s] w fun e w' => e = .returned (.bool (cred s.data.toList)) ∧ w = w' := by
  have H := hide (isCred_any s w hs)
  generalize cred s.data.toList = C at *
  go_enter Try.func9, Try.ntmps9
  go_wp2_with (go_at_call 19; refine H.out.mono ?_; clear H; rintro e w' ⟨rfl, rfl⟩)
  go_ret
  exact ⟨rfl, rfl⟩

/-- does it hold a slash? -/
def hasSl (l : List UInt8) : Bool := l.any fun c => c == 47

set_option maxHeartbeats 1000000 in
theorem hasSlash_any (s : ByteArray) (w : World) (hs : s.size ≤ 65536) :
    Calls Try.prog 13 #[.string s] w fun e w' => e = .returned (.bool (hasSl s.data.toList)) ∧ w = w' := by
  obtain ⟨C, hC⟩ : ∃ C, C = hasSl s.data.toList := ⟨_, rfl⟩
  rw [← hC]
  have HC := hide hC
  clear hC
  go_enter Try.func13, Try.ntmps13
  go_wp2_with fail
  go_loopw [3] (fun i wr => ∃ k : Nat, k ≤ s.size ∧ i = .int .i64 k ∧ Hid (hasSl (s.data.toList.take k) = false) ∧ w = wr) (fun i _ => s.size - (intOf i).toNat)
  case atStart => exact ⟨0, Nat.zero_le _, rfl, hide rfl, rfl⟩
  case round =>
    obtain ⟨k, hk, rfl, HA, rfl⟩ := hrel
    by_cases hlt : k < s.size
    · have hx0 : (0 : Int) ≤ (s[k].toNat : Int) := by omega
      have hx1 : (s[k].toNat : Int) ≤ 255 := by have := s[k].toNat_lt; omega
      by_cases hok : s[k] = 47
      · have HK : Hid (true = C) := hide (by
          rw [HC.out]
          symm
          unfold hasSl
          rw [List.any_eq_true]
          exact ⟨s[k], Array.mem_toList_iff.2 (Array.getElem_mem (xs := s.data) (i := k) hlt), by rw [hok]; rfl⟩)
        clear HA HC
        have t1 : ((s[k].toNat : Int) == 47) = true := by rw [hok]; rfl
        clear hok
        go_wp2_with fail
        go_ret
        exact ⟨ret_bool HK.out, rfl⟩
      · have HK : Hid (hasSl (s.data.toList.take (k + 1)) = false) := hide (by
          rw [List.take_succ_eq_append_getElem (by simpa using hlt)]
          have := HA.out
          unfold hasSl at this ⊢
          rw [List.any_append, this]
          show (false || ((s[k] == 47) || false)) = false
          simpa using hok)
        clear HA
        have t1 : ((s[k].toNat : Int) == 47) = false := by
          rw [beq_eq_false_iff_ne]
          intro h
          apply hok
          apply UInt8.toNat.inj
          simp
          omega
        clear hok
        go_wp2_with fail
        go_roundw
        case rel => exact ⟨k + 1, by omega, by go_num, HK, by trivial⟩
        case measure => simp [intOf]; omega
    · obtain rfl : k = s.size := by omega
      have HK : Hid (false = C) := hide (by
        have := HA.out
        rw [List.take_of_length_le (by simp)] at this
        rw [HC.out, this])
      clear HA HC
      go_wp2_with fail
      go_ret
      exact ⟨ret_bool HK.out, rfl⟩

/-- the canonical path -/
def canon (l : List UInt8) : List UInt8 := if l = [] then [47] else esc true l

set_option maxHeartbeats 1000000 in
theorem canon_any (s : ByteArray) (w : World) (hs : s.size ≤ 65536) :
    Calls Try.prog 21 #[.string s] w fun e w' => e = .returned (.string ⟨(canon s.data.toList).toArray⟩) ∧ Below w.heap.size w w' := by
  by_cases h0 : s.size = 0
  · obtain rfl : s = ⟨#[]⟩ := by
      obtain ⟨d⟩ := s
      have : d = #[] := Array.eq_empty_of_size_eq_zero h0
      rw [this]
    go_enter Try.func21, Try.ntmps21
    go_wp2_with fail
    go_ret
    exact ⟨rfl, Below.refl _ _⟩
  · have he := empty_ne (s := s) (by omega)
    have hc : canon s.data.toList = esc true s.data.toList := by
      unfold canon
      rw [if_neg]
      intro h
      apply h0
      obtain ⟨d⟩ := s
      simp at h
      rw [h]
      rfl
    rw [hc]
    have H := hide (escape_any s true w hs)
    generalize esc true s.data.toList = E at *
    clear hc
    go_enter Try.func21, Try.ntmps21
    go_wp2_with (go_at_call 20; refine H.out.mono ?_; clear H; rintro e w' ⟨v', rfl, ho, hb⟩; have hcv := conv_own ho; clear ho)
    go_ret
    exact ⟨rfl, hb⟩

set_option maxHeartbeats 400000 in
theorem zzCanon_any (s : ByteArray) (w : World) (hs : s.size ≤ 65536) :
    Calls Try.prog 12 #[.string s] w fun e w' => e = .returned (.string ⟨(canon s.data.toList).toArray⟩) ∧ Below w.heap.size w w' := by
  have H := hide (canon_any s w hs)
  generalize canon s.data.toList = C at *
  go_enter Try.func12, Try.ntmps12
  go_wp2_with (go_at_call 21; refine H.out.mono ?_; clear H; rintro e w' ⟨rfl, hb⟩)
  go_ret
  exact ⟨rfl, hb⟩
end Go.Proofs.Qxb6617851a

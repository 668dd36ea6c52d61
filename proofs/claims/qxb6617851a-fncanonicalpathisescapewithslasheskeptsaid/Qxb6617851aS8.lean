import Derived.Test.Qxb6617851aS7
namespace Go.Proofs.Qxb6617851a
open Go.RowKit
attribute [local go_sem ↓] Go.wp_at_zero Go.wp_at_succ

theorem back (s : ByteArray) : (⟨s.data.toList.toArray⟩ : ByteArray) = s := by
  obtain ⟨d⟩ := s
  simp
theorem esc_size (ks : Bool) (s : ByteArray) (hs : s.size ≤ 65536) : (⟨(esc ks s.data.toList).toArray⟩ : ByteArray).size ≤ 1000000 := by
  have hl := esc_length ks s.data.toList
  have hl2 : s.data.toList.length = s.size := by simp
  show (esc ks s.data.toList).toArray.size ≤ 1000000
  rw [List.size_toArray]
  omega
theorem decode_esc (ks : Bool) (s : ByteArray) (hs : s.size ≤ 65536) (w : World) :
    Calls Try.prog 16 #[.string ⟨(esc ks s.data.toList).toArray⟩] w fun e w' => e = .returned (.tuple #[.string s, .bool true]) ∧ Below w.heap.size w w' := by
  have h := decode_any ks s.data.toList ⟨(esc ks s.data.toList).toArray⟩ rfl (esc_size ks s hs) w
  rw [back] at h
  exact h

set_option maxHeartbeats 400000 in
theorem decodes_long1 (s : ByteArray) (ks : Bool) (hn : s.size ≤ maxLen) (h : 1048576 < s.size) (w : World) :
    Calls Try.prog 6 #[.string s, .bool ks] w fun e w' => e = .returned (.bool true) ∧ Below w.heap.size w w' := by
  have H8 := hide (bytes15_no s ks hn h w)
  go_enter Try.func6, Try.ntmps6
  go_wp2_with fail
  refine H8.out.mono ?_
  clear H8
  rintro e w' ⟨rfl, rfl⟩
  go_wp2_with fail
  go_ret
  exact ⟨rfl, Below.refl _ _⟩
set_option maxHeartbeats 400000 in
theorem decodes_long2 (s : ByteArray) (ks : Bool) (hn : s.size ≤ 1048576) (h : 65536 < s.size) (w : World) :
    Calls Try.prog 6 #[.string s, .bool ks] w fun e w' => e = .returned (.bool true) ∧ Below w.heap.size w w' := by
  have H8 := hide (bytes15_yes s ks hn w)
  go_enter Try.func6, Try.ntmps6
  go_wp2_with fail
  refine H8.out.mono ?_
  clear H8
  rintro e w' ⟨rfl, rfl⟩
  go_wp2_with fail
  go_ret
  exact ⟨rfl, Below.refl _ _⟩

set_option maxHeartbeats 1000000 in
theorem decodes_short (s : ByteArray) (ks : Bool) (hs : s.size ≤ 65536) (w : World) :
    Calls Try.prog 6 #[.string s, .bool ks] w fun e w' => e = .returned (.bool true) ∧ Below w.heap.size w w' := by
  have H8 := hide (bytes15_yes s ks (by omega) w)
  have HE := hide (zzEscape_any s ks w hs)
  go_enter Try.func6, Try.ntmps6
  go_wp2_with fail
  refine H8.out.mono ?_
  clear H8
  rintro e w' ⟨rfl, rfl⟩
  go_wp2_with fail
  refine HE.out.mono ?_
  clear HE
  rintro e w2 ⟨v', rfl, ho, hb⟩
  have hcv := conv_own ho
  clear ho
  have HD := hide (decode_esc ks s hs w2)
  generalize esc ks s.data.toList = E at *
  go_wp2_with fail
  refine HD.out.mono ?_
  clear HD hcv
  rintro e w3 ⟨rfl, hb3⟩
  go_wp2_with fail
  go_ret
  exact ⟨rfl, hb.trans (hb3.mono hb.size)⟩

theorem decodes_walk (s : ByteArray) (ks : Bool) (hn : s.size ≤ maxLen) (w : World) :
    Calls Try.prog 6 #[.string s, .bool ks] w fun e w' => e = .returned (.bool true) ∧ Below w.heap.size w w' := by
  by_cases h1 : 1048576 < s.size
  · exact decodes_long1 s ks hn h1 w
  by_cases h2 : 65536 < s.size
  · exact decodes_long2 s ks (by omega) h2 w
  exact decodes_short s ks (by omega) w

/-! the canonical path is a credential part exactly where there is no slash -/
theorem canon_nil : cred (canon []) = false := by decide
theorem escB_true (c : UInt8) (h : c ≠ 47) : escB true c = escB false c := by
  have : keepB true c = keepB false c := by
    unfold keepB
    have h2 : decide (c.toNat = 47) = false := decide_eq_false fun e => h (UInt8.toNat.inj e)
    rw [h2]
    rfl
  unfold escB
  rw [this]
theorem esc_true (l : List UInt8) (h : hasSl l = false) : esc true l = esc false l := by
  induction l with
  | nil => rfl
  | cons c l ih =>
    unfold hasSl at h ih
    rw [List.any_cons, Bool.or_eq_false_iff] at h
    unfold esc at ih ⊢
    rw [List.flatMap_cons, List.flatMap_cons, ih h.2, escB_true c (by simpa using h.1)]
theorem esc_slash (l : List UInt8) (h : hasSl l = true) : (esc true l).all okB = false := by
  induction l with
  | nil => cases h
  | cons c l ih =>
    unfold hasSl at h ih
    unfold esc at ih ⊢
    rw [List.flatMap_cons, List.all_append]
    rw [List.any_cons, Bool.or_eq_true] at h
    rcases h with h | h
    · have e : c = 47 := by simpa using h
      subst e
      rfl
    · rw [ih h, Bool.and_false]
theorem canon_cred (l : List UInt8) (h : l ≠ []) : cred (canon l) = !hasSl l := by
  unfold canon
  rw [if_neg h, cred_ne (esc_ne true h)]
  cases hb : hasSl l with
  | false => rw [esc_true l hb, esc_ok]; rfl
  | true => rw [esc_slash l hb]; rfl

theorem canon_size (s : ByteArray) (hs : s.size ≤ 65536) : (⟨(canon s.data.toList).toArray⟩ : ByteArray).size ≤ 1000000 := by
  unfold canon
  split
  · decide
  · exact esc_size true s hs
theorem cred_canon (s : ByteArray) (hs : s.size ≤ 65536) (w : World) : Calls Try.prog 9 #[.string ⟨(canon s.data.toList).toArray⟩] w fun e w' => e = .returned (.bool (cred (canon s.data.toList))) ∧ w = w' :=
  zzIsCred_any _ w (canon_size s hs)

set_option maxHeartbeats 400000 in
theorem iff_long1 (s : ByteArray) (hn : s.size ≤ maxLen) (h : 1048576 < s.size) (w : World) :
    Calls Try.prog 4 #[.string s] w fun e w' => e = .returned (.bool true) ∧ Below w.heap.size w w' := by
  have H8 := hide (bytes11_no s hn h w)
  go_enter Try.func4, Try.ntmps4
  go_wp2_with fail
  refine H8.out.mono ?_
  clear H8
  rintro e w' ⟨rfl, rfl⟩
  go_wp2_with fail
  go_ret
  exact ⟨rfl, Below.refl _ _⟩
set_option maxHeartbeats 400000 in
theorem iff_long2 (s : ByteArray) (hn : s.size ≤ 1048576) (h : 65536 < s.size) (w : World) :
    Calls Try.prog 4 #[.string s] w fun e w' => e = .returned (.bool true) ∧ Below w.heap.size w w' := by
  have H8 := hide (bytes11_yes s hn w)
  go_enter Try.func4, Try.ntmps4
  go_wp2_with fail
  refine H8.out.mono ?_
  clear H8
  rintro e w' ⟨rfl, rfl⟩
  go_wp2_with fail
  go_ret
  exact ⟨rfl, Below.refl _ _⟩
set_option maxHeartbeats 1000000 in
theorem iff_none (s : ByteArray) (hz : s.size = 0) (w : World) :
    Calls Try.prog 4 #[.string s] w fun e w' => e = .returned (.bool true) ∧ Below w.heap.size w w' := by
  have hs : s.size ≤ 65536 := by omega
  have H8 := hide (bytes11_yes s (by omega) w)
  have HC := hide (zzCanon_any s w hs)
  have hem := empty_is hz
  have HK := hide (fun (w2 : World) => cred_canon s hs w2)
  have e : cred (canon s.data.toList) = false := by rw [data_nil hz, canon_nil]
  rw [e] at HK
  generalize canon s.data.toList = E at *
  clear e hz
  go_enter Try.func4, Try.ntmps4
  go_wp2_with fail
  refine H8.out.mono ?_
  clear H8
  rintro e w' ⟨rfl, rfl⟩
  go_wp2_with fail
  refine HC.out.mono ?_
  clear HC
  rintro e w2 ⟨rfl, hb⟩
  go_wp2_with fail
  refine (HK.out _).mono ?_
  clear HK
  rintro e w' ⟨rfl, rfl⟩
  go_wp2_with fail
  go_ret
  exact ⟨rfl, hb⟩
set_option maxHeartbeats 1000000 in
theorem iff_some (s : ByteArray) (hs : s.size ≤ 65536) (hpos : 0 < s.size) (w : World) :
    Calls Try.prog 4 #[.string s] w fun e w' => e = .returned (.bool true) ∧ Below w.heap.size w w' := by
  have H8 := hide (bytes11_yes s (by omega) w)
  have HC := hide (zzCanon_any s w hs)
  have hem := empty_ne hpos
  have HK := hide (fun (w2 : World) => cred_canon s hs w2)
  have HS := hide (fun (w2 : World) => hasSlash_any s w2 hs)
  have e : cred (canon s.data.toList) = !hasSl s.data.toList := canon_cred _ (data_ne hpos)
  rw [e] at HK
  generalize hasSl s.data.toList = S at *
  generalize canon s.data.toList = E at *
  clear e
  go_enter Try.func4, Try.ntmps4
  go_wp2_with fail
  refine H8.out.mono ?_
  clear H8
  rintro e w' ⟨rfl, rfl⟩
  go_wp2_with fail
  refine HC.out.mono ?_
  clear HC
  rintro e w2 ⟨rfl, hb⟩
  go_wp2_with fail
  refine (HK.out _).mono ?_
  clear HK
  rintro e w' ⟨rfl, rfl⟩
  go_wp2_with fail
  refine (HS.out _).mono ?_
  clear HS
  rintro e w' ⟨rfl, rfl⟩
  cases S <;> go_wp2_with fail
  all_goals
    go_ret
    exact ⟨rfl, hb⟩

theorem iff_walk (s : ByteArray) (hn : s.size ≤ maxLen) (w : World) :
    Calls Try.prog 4 #[.string s] w fun e w' => e = .returned (.bool true) ∧ Below w.heap.size w w' := by
  by_cases h1 : 1048576 < s.size
  · exact iff_long1 s hn h1 w
  by_cases h2 : 65536 < s.size
  · exact iff_long2 s (by omega) h2 w
  by_cases h3 : s.size = 0
  · exact iff_none s h3 w
  exact iff_some s (by omega) (by omega) w
end Go.Proofs.Qxb6617851a

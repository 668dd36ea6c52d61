import Derived.Test.Qxb6617851aS5
namespace Go.Proofs.Qxb6617851a
open Go.RowKit
attribute [local go_sem ↓] Go.wp_at_zero Go.wp_at_succ

theorem below_drewN {B : Nat} {w w' : World} (h : Below B w w') (n : Nat) : Below B w (w'.drewN n) := ⟨h.os, h.tape, h.output, h.size, h.block⟩

theorem cred_glue (s : ByteArray) (k : Nat) (c : UInt8) (hc : okB c = false) (hs : s.size ≤ 65536) (w : World) : Calls Try.prog 9 #[.string (s.extract 0 k ++ ⟨#[c]⟩ ++ s.extract k s.size)] w fun e w' => e = .returned (.bool false) ∧ w' = w := by
  have hz : (s.extract 0 k ++ ⟨#[c]⟩ ++ s.extract k s.size).size ≤ 1000000 := by
    rw [ByteArray.size_append, ByteArray.size_append, ByteArray.size_extract, ByteArray.size_extract]
    have : (⟨#[c]⟩ : ByteArray).size = 1 := rfl
    omega
  refine (zzIsCred_any _ w hz).mono ?_
  rintro e w' ⟨rfl, rfl⟩
  rw [glued_list, cred_slash _ _ c hc]
  exact ⟨rfl, rfl⟩

theorem glue_sizes (s : ByteArray) (k : Nat) (c : UInt8) (hs : s.size ≤ 65536) : (s.extract 0 k).size ≤ 8388608 ∧ (⟨#[c]⟩ : ByteArray).size ≤ 8388608 ∧ (s.extract 0 k ++ ⟨#[c]⟩).size ≤ 8388608 ∧ (s.extract k s.size).size ≤ 8388608 := by
  have : (⟨#[c]⟩ : ByteArray).size = 1 := rfl
  rw [ByteArray.size_append, ByteArray.size_extract, ByteArray.size_extract]
  omega
theorem add_left (s : ByteArray) (k : Nat) (c : UInt8) (hs : s.size ≤ 65536) (w : World) : (Op.stringOp .add (s.extract 0 k) ⟨#[c]⟩).run Try.prog w = .ok (.string (s.extract 0 k ++ ⟨#[c]⟩)) w := by
  have := glue_sizes s k c hs
  exact run_string_add_sum w _ _ (by omega)
theorem add_right (s : ByteArray) (k : Nat) (c : UInt8) (hs : s.size ≤ 65536) (w : World) : (Op.stringOp .add (s.extract 0 k ++ ⟨#[c]⟩) (s.extract k s.size)).run Try.prog w = .ok (.string (s.extract 0 k ++ ⟨#[c]⟩ ++ s.extract k s.size)) w := by
  have := glue_sizes s k c hs
  exact run_string_add_sum w _ _ (by omega)

/-- the escape's text, as a string, asked -/
theorem cred_escaped (s : ByteArray) (hs : s.size ≤ 65536) (h0 : 0 < s.size) (w : World) : Calls Try.prog 9 #[.string ⟨(esc false s.data.toList).toArray⟩] w fun e w' => e = .returned (.bool true) ∧ w = w' := by
  have hl := esc_length false s.data.toList
  have hl2 : s.data.toList.length = s.size := by simp
  have hz : (⟨(esc false s.data.toList).toArray⟩ : ByteArray).size ≤ 1000000 := by
    show (esc false s.data.toList).toArray.size ≤ 1000000
    rw [List.size_toArray]
    omega
  refine (zzIsCred_any _ w hz).mono ?_
  rintro e w' ⟨rfl, rfl⟩
  rw [show (⟨(esc false s.data.toList).toArray⟩ : ByteArray).data.toList = esc false s.data.toList from rfl, cred_esc (data_ne h0)]
  exact ⟨rfl, rfl⟩

set_option maxRecDepth 4000 in
set_option maxHeartbeats 4000000 in
theorem cut_mid (s : ByteArray) (k : Nat) (w : World) (hs : s.size ≤ 65536) (h0 : 0 < k) (h1 : k < s.size) :
    Calls Try.prog 3 #[.string s, .int .i64 k] w fun e w' => e = .returned (.bool true) ∧ Below w.heap.size w w' := by
  have hpos : 0 < s.size := by omega
  have H8 := hide (bytes8_yes s k (by omega) w)
  have HG := hide (zzIsCred_any s w (by omega))
  have HL := hide (zzIsCred_any (s.extract 0 k) w (by rw [ByteArray.size_extract]; omega))
  have HR := hide (zzIsCred_any (s.extract k s.size) w (by rw [ByteArray.size_extract]; omega))
  rw [left_list] at HL
  rw [right_list] at HR
  rw [cred_cut _ k h0 (by simpa using h1)] at HG
  generalize cred (s.data.toList.take k) = L at *
  generalize cred (s.data.toList.drop k) = R at *
  have HE := hide (zzEscape_any s false w hs)
  have hem := empty_ne hpos
  have k0 : ((k : Int) == 0) = false := by rw [beq_eq_false_iff_ne]; omega
  have k1 : ((k : Int) == (s.size : Int)) = false := by rw [beq_eq_false_iff_ne]; omega
  go_enter Try.func3, Try.ntmps3
  go_wp2_with fail
  refine H8.out.mono ?_
  clear H8
  rintro e w' ⟨rfl, rfl⟩
  go_wp2_with fail
  refine HG.out.mono ?_
  clear HG
  rintro e w' ⟨rfl, rfl⟩
  go_wp2_with fail
  refine HL.out.mono ?_
  clear HL
  rintro e w' ⟨rfl, rfl⟩
  go_wp2_with fail
  refine HR.out.mono ?_
  clear HR
  rintro e w' ⟨rfl, rfl⟩
  cases L <;> cases R <;> go_wp2_with fail
  all_goals
    refine HE.out.mono ?_
    clear HE
    rintro e w2 ⟨v', rfl, ho, hb⟩
    have hcv := conv_own ho
    clear ho
    have HC := hide (cred_escaped s hs hpos w2)
    generalize esc false s.data.toList = E at *
    have HQ1 := hide (fun (w : World) => cred_glue s k 47 (by decide) hs w)
    have HQ2 := hide (fun (w : World) => cred_glue s k 44 (by decide) hs w)
    have l1 := fun (w : World) => add_left s k 47 hs w
    have l2 := fun (w : World) => add_left s k 44 hs w
    have r1 := fun (w : World) => add_right s k 47 hs w
    have r2 := fun (w : World) => add_right s k 44 hs w
    go_wp2_with fail
    refine HC.out.mono ?_
    clear HC
    rintro e w' ⟨rfl, rfl⟩
    go_wp2_with fail
    go_quiet ((go_at_call 9; exact Calls.quiet_of_same (HQ1.out _)))
    have hb3 := below_drewN hb nq
    clear HQ1 hb hcv
    generalize w2.drewN nq = w3 at hb3 ⊢
    go_wp2_with fail
    go_quiet ((go_at_call 9; exact Calls.quiet_of_same (HQ2.out _)))
    go_wp2_with fail
    go_ret
    exact ⟨rfl, below_drewN hb3 _⟩

set_option maxRecDepth 4000 in
set_option maxHeartbeats 4000000 in
theorem cut_left (s : ByteArray) (k : Nat) (w : World) (hs : s.size ≤ 65536) (h0 : k = 0) (hpos : 0 < s.size) :
    Calls Try.prog 3 #[.string s, .int .i64 k] w fun e w' => e = .returned (.bool true) ∧ Below w.heap.size w w' := by
  have hk : k ≤ s.size := by omega
  have H8 := hide (bytes8_yes s k (by omega) w)
  have HG := hide (zzIsCred_any s w (by omega))
  have HR := hide (zzIsCred_any (s.extract k s.size) w (by rw [ByteArray.size_extract]; omega))
  rw [right_list, show s.data.toList.drop k = s.data.toList by rw [h0]; rfl] at HR
  generalize cred s.data.toList = R at *
  have HE := hide (zzEscape_any s false w hs)
  have hem := empty_ne hpos
  have k0 : ((k : Int) == 0) = true := by rw [beq_iff_eq]; omega
  have k1 : ((k : Int) == (s.size : Int)) = false := by rw [beq_eq_false_iff_ne]; omega
  clear h0
  go_enter Try.func3, Try.ntmps3
  go_wp2_with fail
  refine H8.out.mono ?_
  clear H8
  rintro e w' ⟨rfl, rfl⟩
  go_wp2_with fail
  refine HG.out.mono ?_
  clear HG
  rintro e w' ⟨rfl, rfl⟩
  go_wp2_with fail
  refine HR.out.mono ?_
  clear HR
  rintro e w' ⟨rfl, rfl⟩
  cases R <;> go_wp2_with fail
  all_goals
    refine HE.out.mono ?_
    clear HE
    rintro e w2 ⟨v', rfl, ho, hb⟩
    have hcv := conv_own ho
    clear ho
    have HC := hide (cred_escaped s hs hpos w2)
    generalize esc false s.data.toList = E at *
    have HQ1 := hide (fun (w : World) => cred_glue s k 47 (by decide) hs w)
    have HQ2 := hide (fun (w : World) => cred_glue s k 44 (by decide) hs w)
    have l1 := fun (w : World) => add_left s k 47 hs w
    have l2 := fun (w : World) => add_left s k 44 hs w
    have r1 := fun (w : World) => add_right s k 47 hs w
    have r2 := fun (w : World) => add_right s k 44 hs w
    go_wp2_with fail
    refine HC.out.mono ?_
    clear HC
    rintro e w' ⟨rfl, rfl⟩
    go_wp2_with fail
    go_quiet ((go_at_call 9; exact Calls.quiet_of_same (HQ1.out _)))
    have hb3 := below_drewN hb nq
    clear HQ1 hb hcv
    generalize w2.drewN nq = w3 at hb3 ⊢
    go_wp2_with fail
    go_quiet ((go_at_call 9; exact Calls.quiet_of_same (HQ2.out _)))
    go_wp2_with fail
    go_ret
    exact ⟨rfl, below_drewN hb3 _⟩

set_option maxRecDepth 4000 in
set_option maxHeartbeats 4000000 in
theorem cut_right (s : ByteArray) (k : Nat) (w : World) (hs : s.size ≤ 65536) (h0 : k = s.size) (hpos : 0 < s.size) :
    Calls Try.prog 3 #[.string s, .int .i64 k] w fun e w' => e = .returned (.bool true) ∧ Below w.heap.size w w' := by
  have hk : k ≤ s.size := by omega
  have H8 := hide (bytes8_yes s k (by omega) w)
  have HG := hide (zzIsCred_any s w (by omega))
  have HL := hide (zzIsCred_any (s.extract 0 k) w (by rw [ByteArray.size_extract]; omega))
  rw [left_list, List.take_of_length_le (by rw [h0]; simp)] at HL
  generalize cred s.data.toList = L at *
  have HE := hide (zzEscape_any s false w hs)
  have hem := empty_ne hpos
  have k0 : ((k : Int) == 0) = false := by rw [beq_eq_false_iff_ne]; omega
  have k1 : ((k : Int) == (s.size : Int)) = true := by rw [beq_iff_eq]; omega
  clear h0
  go_enter Try.func3, Try.ntmps3
  go_wp2_with fail
  refine H8.out.mono ?_
  clear H8
  rintro e w' ⟨rfl, rfl⟩
  go_wp2_with fail
  refine HG.out.mono ?_
  clear HG
  rintro e w' ⟨rfl, rfl⟩
  go_wp2_with fail
  refine HL.out.mono ?_
  clear HL
  rintro e w' ⟨rfl, rfl⟩
  cases L <;> go_wp2_with fail
  all_goals
    refine HE.out.mono ?_
    clear HE
    rintro e w2 ⟨v', rfl, ho, hb⟩
    have hcv := conv_own ho
    clear ho
    have HC := hide (cred_escaped s hs hpos w2)
    generalize esc false s.data.toList = E at *
    have HQ1 := hide (fun (w : World) => cred_glue s k 47 (by decide) hs w)
    have HQ2 := hide (fun (w : World) => cred_glue s k 44 (by decide) hs w)
    have l1 := fun (w : World) => add_left s k 47 hs w
    have l2 := fun (w : World) => add_left s k 44 hs w
    have r1 := fun (w : World) => add_right s k 47 hs w
    have r2 := fun (w : World) => add_right s k 44 hs w
    go_wp2_with fail
    refine HC.out.mono ?_
    clear HC
    rintro e w' ⟨rfl, rfl⟩
    go_wp2_with fail
    go_quiet ((go_at_call 9; exact Calls.quiet_of_same (HQ1.out _)))
    have hb3 := below_drewN hb nq
    clear HQ1 hb hcv
    generalize w2.drewN nq = w3 at hb3 ⊢
    go_wp2_with fail
    go_quiet ((go_at_call 9; exact Calls.quiet_of_same (HQ2.out _)))
    go_wp2_with fail
    go_ret
    exact ⟨rfl, below_drewN hb3 _⟩

theorem data_nil {s : ByteArray} (h : s.size = 0) : s.data.toList = [] := by
  obtain ⟨d⟩ := s
  have : d = #[] := Array.eq_empty_of_size_eq_zero h
  rw [this]
theorem empty_is {s : ByteArray} (h : s.size = 0) : s.toList.isEmpty = true := by
  rw [ByteArray.toList_eq, data_nil h]
  rfl
theorem cred_escaped0 (s : ByteArray) (h0 : s.size = 0) (w : World) : Calls Try.prog 9 #[.string ⟨(esc false s.data.toList).toArray⟩] w fun e w' => e = .returned (.bool false) ∧ w = w' := by
  rw [data_nil h0]
  exact zzIsCred_any _ w (by decide)

set_option maxRecDepth 4000 in
set_option maxHeartbeats 4000000 in
theorem cut_none (s : ByteArray) (k : Nat) (w : World) (h0 : k = 0) (hz : s.size = 0) :
    Calls Try.prog 3 #[.string s, .int .i64 k] w fun e w' => e = .returned (.bool true) ∧ Below w.heap.size w w' := by
  have hk : k ≤ s.size := by omega
  have hs : s.size ≤ 65536 := by omega
  have H8 := hide (bytes8_yes s k (by omega) w)
  have HG := hide (zzIsCred_any s w (by omega))
  rw [data_nil hz, cred_nil] at HG
  have HE := hide (zzEscape_any s false w hs)
  have hem := empty_is hz
  have k0 : ((k : Int) == 0) = true := by rw [beq_iff_eq]; omega
  have k1 : ((k : Int) == (s.size : Int)) = true := by rw [beq_iff_eq]; omega
  clear h0
  have HZ := hide hz
  clear hz
  go_enter Try.func3, Try.ntmps3
  go_wp2_with fail
  refine H8.out.mono ?_
  clear H8
  rintro e w' ⟨rfl, rfl⟩
  go_wp2_with fail
  refine HG.out.mono ?_
  clear HG
  rintro e w' ⟨rfl, rfl⟩
  go_wp2_with fail
  refine HE.out.mono ?_
  clear HE
  rintro e w2 ⟨v', rfl, ho, hb⟩
  have hcv := conv_own ho
  clear ho
  have HC := hide (cred_escaped0 s HZ.out w2)
  generalize esc false s.data.toList = E at *
  have HQ1 := hide (fun (w : World) => cred_glue s k 47 (by decide) hs w)
  have HQ2 := hide (fun (w : World) => cred_glue s k 44 (by decide) hs w)
  have l1 := fun (w : World) => add_left s k 47 hs w
  have l2 := fun (w : World) => add_left s k 44 hs w
  have r1 := fun (w : World) => add_right s k 47 hs w
  have r2 := fun (w : World) => add_right s k 44 hs w
  go_wp2_with fail
  refine HC.out.mono ?_
  clear HC
  rintro e w' ⟨rfl, rfl⟩
  go_wp2_with fail
  go_quiet ((go_at_call 9; exact Calls.quiet_of_same (HQ1.out _)))
  have hb3 := below_drewN hb nq
  clear HQ1 hb hcv
  generalize w2.drewN nq = w3 at hb3 ⊢
  go_wp2_with fail
  go_quiet ((go_at_call 9; exact Calls.quiet_of_same (HQ2.out _)))
  go_wp2_with fail
  go_ret
  exact ⟨rfl, below_drewN hb3 _⟩

set_option maxHeartbeats 400000 in
theorem cut_long1 (s : ByteArray) (k : Int) (hn : s.size ≤ maxLen) (h : 1048576 < s.size) (w : World) :
    Calls Try.prog 3 #[.string s, .int .i64 k] w fun e w' => e = .returned (.bool true) ∧ Below w.heap.size w w' := by
  have H8 := hide (bytes8_no s k hn h w)
  go_enter Try.func3, Try.ntmps3
  go_wp2_with fail
  refine H8.out.mono ?_
  clear H8
  rintro e w' ⟨rfl, rfl⟩
  go_wp2_with fail
  go_ret
  exact ⟨rfl, Below.refl _ _⟩
set_option maxHeartbeats 400000 in
theorem cut_long2 (s : ByteArray) (k : Int) (hn : s.size ≤ 1048576) (h : 65536 < s.size) (w : World) :
    Calls Try.prog 3 #[.string s, .int .i64 k] w fun e w' => e = .returned (.bool true) ∧ Below w.heap.size w w' := by
  have H8 := hide (bytes8_yes s k hn w)
  go_enter Try.func3, Try.ntmps3
  go_wp2_with fail
  refine H8.out.mono ?_
  clear H8
  rintro e w' ⟨rfl, rfl⟩
  go_wp2_with fail
  go_ret
  exact ⟨rfl, Below.refl _ _⟩
set_option maxHeartbeats 400000 in
theorem cut_low (s : ByteArray) (k : Int) (hn : s.size ≤ 65536) (h : k < 0) (w : World) :
    Calls Try.prog 3 #[.string s, .int .i64 k] w fun e w' => e = .returned (.bool true) ∧ Below w.heap.size w w' := by
  have H8 := hide (bytes8_yes s k (by omega) w)
  go_enter Try.func3, Try.ntmps3
  go_wp2_with fail
  refine H8.out.mono ?_
  clear H8
  rintro e w' ⟨rfl, rfl⟩
  go_wp2_with fail
  go_ret
  exact ⟨rfl, Below.refl _ _⟩
set_option maxHeartbeats 400000 in
theorem cut_high (s : ByteArray) (k : Int) (hn : s.size ≤ 65536) (h0 : 0 ≤ k) (h : (s.size : Int) < k) (w : World) :
    Calls Try.prog 3 #[.string s, .int .i64 k] w fun e w' => e = .returned (.bool true) ∧ Below w.heap.size w w' := by
  have H8 := hide (bytes8_yes s k (by omega) w)
  go_enter Try.func3, Try.ntmps3
  go_wp2_with fail
  refine H8.out.mono ?_
  clear H8
  rintro e w' ⟨rfl, rfl⟩
  go_wp2_with fail
  go_ret
  exact ⟨rfl, Below.refl _ _⟩

theorem cut_walk (s : ByteArray) (k : Int) (hn : s.size ≤ maxLen) (w : World) :
    Calls Try.prog 3 #[.string s, .int .i64 k] w fun e w' => e = .returned (.bool true) ∧ Below w.heap.size w w' := by
  by_cases h1 : 1048576 < s.size
  · exact cut_long1 s k hn h1 w
  by_cases h2 : 65536 < s.size
  · exact cut_long2 s k (by omega) h2 w
  by_cases h3 : k < 0
  · exact cut_low s k (by omega) h3 w
  by_cases h4 : (s.size : Int) < k
  · exact cut_high s k (by omega) (by omega) h4 w
  obtain ⟨j, rfl⟩ : ∃ j : Nat, k = (j : Int) := ⟨k.toNat, by omega⟩
  by_cases h5 : s.size = 0
  · exact cut_none s j w (by omega) h5
  by_cases h6 : j = 0
  · exact cut_left s j w (by omega) h6 (by omega)
  by_cases h7 : j = s.size
  · exact cut_right s j w (by omega) h7 (by omega)
  exact cut_mid s j w (by omega) (by omega) (by omega)
end Go.Proofs.Qxb6617851a

import Derived.Test.Qxb6617231aE1
namespace Go.Proofs.Qxb6617231a
open Go.RowKit

/-- is there one of replica r from lo up to hi? -/
def SeenB (R : Nat → ByteArray) (lo hi : Nat) (r : ByteArray) : Bool := (List.range hi).any fun i => decide (lo ≤ i) && eqs (R i) r

theorem SeenB_no {R : Nat → ByteArray} {lo hi : Nat} {r : ByteArray} (h : ∀ i, lo ≤ i → i < hi → eqs (R i) r = false) : SeenB R lo hi r = false := by
  unfold SeenB
  rw [List.any_eq_false]
  intro i hi'
  have := List.mem_range.1 hi'
  by_cases hl : lo ≤ i
  · simp [h i hl this]
  · simp [hl]

theorem SeenB_yes {R : Nat → ByteArray} {lo hi : Nat} {r : ByteArray} {i : Nat} (h1 : lo ≤ i) (h2 : i < hi) (h : eqs (R i) r = true) : SeenB R lo hi r = true := by
  unfold SeenB
  rw [List.any_eq_true]
  exact ⟨i, List.mem_range.2 h2, by simp [h1, h]⟩

theorem ret_bool {a b : Bool} (h : a = b) : Ending.returned (.bool a) = .returned (.bool b) := by rw [h]

set_option maxHeartbeats 400000 in
theorem inStamps_any (ao : Option Addr) (n cap : Nat) (R : Nat → ByteArray) (r : ByteArray) (w : World) (hn : n ≤ 65536)
    (hc : Hid (∀ i, i < n → ∃ b off, ao = some ⟨b, off, none⟩ ∧ w.cell? ⟨b, off + i * 2 + 1, none⟩ = some (.string (R i)))) :
    Calls Try.prog 26 #[.slice ao n cap, .string r] w fun e w' => e = .returned (.bool (SeenB R 0 n r)) ∧ w = w' := by
  generalize hS : SeenB R 0 n r = S
  have HS := hide hS
  clear hS
  go_enter Try.func26, Try.ntmps26
  go_wp2_with fail
  go_loop [5] (fun i => ∃ k : Nat, k ≤ n ∧ i = .int .i64 k ∧ Hid (∀ j, j < k → eqs (R j) r = false)) (fun i => n - (intOf i).toNat)
  case atStart => exact ⟨0, Nat.zero_le _, rfl, hide (fun j hj => absurd hj (by omega))⟩
  case round =>
    obtain ⟨k, hk, rfl, hno⟩ := hrel
    by_cases hlt : k < n
    · obtain ⟨b, off, rfl, e1⟩ := hc.out k hlt
      cases he : eqs (R k) r with
      | true =>
        have he' : ((R k).toList == r.toList) = true := he
        have HE := hide he
        clear he
        go_wp2_with fail
        go_ret
        exact ⟨ret_bool (by rw [← HS.out, SeenB_yes (Nat.zero_le _) hlt HE.out]), rfl⟩
      | false =>
        have he' : ((R k).toList == r.toList) = false := he
        have HE := hide he
        clear he
        go_wp2_with fail
        go_round
        case rel =>
          refine ⟨k + 1, by omega, by go_num, hide (fun j hj => ?_)⟩
          by_cases e : j = k
          · subst e; exact HE.out
          · exact hno.out j (by omega)
        case measure => simp [intOf]; omega
    · obtain rfl : n = k := by omega
      go_wp2_with fail
      go_ret
      exact ⟨ret_bool (by rw [← HS.out, SeenB_no (fun i _ hi => hno.out i hi)]), rfl⟩

set_option maxHeartbeats 400000 in
theorem seenBefore_any (ao : Option Addr) (n cap lo hi : Nat) (R : Nat → ByteArray) (r : ByteArray) (w : World) (hn : n ≤ 65536) (hlh : lo ≤ hi) (hhn : hi ≤ n)
    (hc : Hid (∀ i, i < n → ∃ b off, ao = some ⟨b, off, none⟩ ∧ w.cell? ⟨b, off + i * 3 + 1, none⟩ = some (.string (R i)))) :
    Calls Try.prog 27 #[.slice ao n cap, .int .i64 lo, .int .i64 hi, .string r] w fun e w' => e = .returned (.bool (SeenB R lo hi r)) ∧ w = w' := by
  generalize hS : SeenB R lo hi r = S
  have HS := hide hS
  clear hS
  go_enter Try.func27, Try.ntmps27
  go_wp2_with fail
  go_loop [9] (fun i => ∃ k : Nat, lo ≤ k ∧ k ≤ hi ∧ i = .int .i64 k ∧ Hid (∀ j, lo ≤ j → j < k → eqs (R j) r = false)) (fun i => hi - (intOf i).toNat)
  case atStart => exact ⟨lo, Nat.le_refl _, hlh, rfl, hide (fun j hj h2 => absurd hj (by omega))⟩
  case round =>
    obtain ⟨k, hk1, hk, rfl, hno⟩ := hrel
    by_cases hlt : k < hi
    · obtain ⟨b, off, rfl, e1⟩ := hc.out k (by omega)
      cases he : eqs (R k) r with
      | true =>
        have he' : ((R k).toList == r.toList) = true := he
        have HE := hide he
        clear he
        go_wp2_with fail
        go_ret
        exact ⟨ret_bool (by rw [← HS.out, SeenB_yes hk1 hlt HE.out]), rfl⟩
      | false =>
        have he' : ((R k).toList == r.toList) = false := he
        have HE := hide he
        clear he
        go_wp2_with fail
        go_round
        case rel =>
          refine ⟨k + 1, by omega, by omega, by go_num, hide (fun j h1 hj => ?_)⟩
          by_cases e : j = k
          · subst e; exact HE.out
          · exact hno.out j h1 (by omega)
        case measure => simp [intOf]; omega
    · obtain rfl : hi = k := by omega
      go_wp2_with fail
      go_ret
      exact ⟨ret_bool (by rw [← HS.out, SeenB_no (fun i h1 hi => hno.out i h1 hi)]), rfl⟩

set_option maxHeartbeats 400000 in
theorem firstOf_any (ao : Option Addr) (n cap m : Nat) (R : Nat → ByteArray) (w : World) (hn : n ≤ 65536) (hm : m < n)
    (hc : Hid (∀ i, i < n → ∃ b off, ao = some ⟨b, off, none⟩ ∧ w.cell? ⟨b, off + i * 2 + 1, none⟩ = some (.string (R i)))) :
    Calls Try.prog 24 #[.slice ao n cap, .int .i64 m] w fun e w' => e = .returned (.bool (!SeenB R 0 m (R m))) ∧ ∃ q, w' = w.drewN q := by
  generalize hS : (!SeenB R 0 m (R m)) = S
  have HS := hide hS
  clear hS
  obtain ⟨b, off, rfl, em⟩ := hc.out m hm
  go_enter Try.func24, Try.ntmps24
  go_wp2_with fail
  go_loopw [5] (fun i wr => ∃ k q : Nat, k ≤ m ∧ i = .int .i64 k ∧ Hid (∀ j, j < k → eqs (R j) (R m) = false) ∧ wr = w.drewN q) (fun i _ => m - (intOf i).toNat)
  case atStart => exact ⟨0, 0, Nat.zero_le _, rfl, hide (fun j hj => absurd hj (by omega)), rfl⟩
  case round =>
    obtain ⟨k, q, hk, rfl, hno, rfl⟩ := hrel
    by_cases hlt : k < m
    · obtain ⟨b', off', e, e1⟩ := hc.out k (by omega)
      injection e with e
      injection e with e0 e2
      subst e0 e2
      cases he : eqs (R k) (R m) with
      | true =>
        have he' : ((R k).toList == (R m).toList) = true := he
        have HE := hide he
        clear he
        go_wp2_with fail
        go_quiet (fail)
        go_wp2_with fail
        go_ret
        exact ⟨ret_bool (by rw [← HS.out, SeenB_yes (Nat.zero_le _) hlt HE.out]; rfl), q + nq, World.drewN_drewN _ _ _⟩
      | false =>
        have he' : ((R k).toList == (R m).toList) = false := he
        have HE := hide he
        clear he
        go_wp2_with fail
        go_quiet (fail)
        go_wp2_with fail
        go_roundw
        case rel =>
          refine ⟨k + 1, q + nq, by omega, by go_num, hide (fun j hj => ?_), rfl⟩
          by_cases e : j = k
          · subst e; exact HE.out
          · exact hno.out j (by omega)
        case measure => simp [intOf]; omega
    · obtain rfl : m = k := by omega
      go_wp2_with fail
      go_ret
      exact ⟨ret_bool (by rw [← HS.out, SeenB_no (fun i _ hi => hno.out i hi)]; rfl), q, rfl⟩

theorem ret_int64 {a b : Int} (h : a = b) : Ending.returned (.int .i64 a) = .returned (.int .i64 b) := by rw [h]

theorem drop_cons (l : List (Int × ByteArray × Int)) (k : Nat) (h : k < l.length) : l.drop k = l.getD k wr0 :: l.drop (k + 1) := by
  rw [List.drop_eq_getElem_cons h, List.getD_eq_getElem?_getD, List.getElem?_eq_getElem h]
  rfl

theorem maxL_take {l : List (Int × ByteArray × Int)} {k : Nat} {r : ByteArray} {m z : Int} (h : k < l.length) (he : eqs (l.getD k wr0).2.1 r = true) (hlt : m < (l.getD k wr0).1) (hz : maxL (l.drop k) r m = z) : maxL (l.drop (k + 1)) r (l.getD k wr0).1 = z := by
  rw [drop_cons l k h, maxL, if_pos ⟨he, hlt⟩] at hz
  exact hz
theorem maxL_pass {l : List (Int × ByteArray × Int)} {k : Nat} {r : ByteArray} {m z : Int} (h : k < l.length) (hn : ¬ (eqs (l.getD k wr0).2.1 r = true ∧ m < (l.getD k wr0).1)) (hz : maxL (l.drop k) r m = z) : maxL (l.drop (k + 1)) r m = z := by
  rw [drop_cons l k h, maxL, if_neg hn] at hz
  exact hz

set_option maxHeartbeats 400000 in
theorem maxTime_any (ao : Option Addr) (n cap lo : Nat) (l : List (Int × ByteArray × Int)) (r : ByteArray) (st : Int) (w : World) (hn : n ≤ 65536) (hlo : lo ≤ n) (hW : Hid (WrIn w ao n l)) :
    Calls Try.prog 25 #[.slice ao n cap, .int .i64 lo, .string r, .int .i64 st] w fun e w' => e = .returned (.int .i64 (maxL (l.drop lo) r st)) ∧ w = w' := by
  generalize hZ : maxL (l.drop lo) r st = Z
  have HZ := hide hZ
  clear hZ
  have HL := hide hW.out.1
  go_enter Try.func25, Try.ntmps25
  go_wp2_with fail
  go_loop [9, 10] (fun m i => ∃ (k : Nat) (z : Int), lo ≤ k ∧ k ≤ n ∧ i = .int .i64 k ∧ m = .int .i64 z ∧ Hid (maxL (l.drop k) r z = Z)) (fun _ i => n - (intOf i).toNat)
  case atStart => exact ⟨lo, st, Nat.le_refl _, hlo, rfl, rfl, HZ⟩
  case round =>
    obtain ⟨k, z, hk1, hk, rfl, rfl, hz⟩ := hrel
    by_cases hlt : k < n
    · obtain ⟨b, off, rfl, e0, e1, _⟩ := hW.out.2 k hlt
      have hkl : Hid (k < l.length) := hide (by rw [HL.out]; exact hlt)
      cases he : eqs (l.getD k wr0).2.1 r with
      | true =>
        have HE := hide he
        clear he
        by_cases hT : z < (l.getD k wr0).1
        · have HZ' := hide (maxL_take hkl.out HE.out hT hz.out)
          obtain ⟨T, hTe⟩ : ∃ T, T = (l.getD k wr0).1 := ⟨_, rfl⟩
          obtain ⟨R, hRe⟩ : ∃ R, R = (l.getD k wr0).2.1 := ⟨_, rfl⟩
          have he' : ((l.getD k wr0).2.1.toList == r.toList) = true := HE.out
          rw [← hTe] at hT e0 HZ'
          rw [← hRe] at e1 he'
          clear hTe hRe
          go_wp2_with fail
          go_round
          case rel => exact ⟨k + 1, T, by omega, by omega, by go_num, rfl, HZ'⟩
          case measure => simp [intOf]; omega
        · have HZ' := hide (maxL_pass hkl.out (fun h => hT h.2) hz.out)
          obtain ⟨T, hTe⟩ : ∃ T, T = (l.getD k wr0).1 := ⟨_, rfl⟩
          obtain ⟨R, hRe⟩ : ∃ R, R = (l.getD k wr0).2.1 := ⟨_, rfl⟩
          have he' : ((l.getD k wr0).2.1.toList == r.toList) = true := HE.out
          rw [← hTe] at hT e0
          rw [← hRe] at e1 he'
          clear hTe hRe
          have hT' : decide (z < T) = false := by simpa using hT
          go_wp2_with fail
          go_round
          case rel => exact ⟨k + 1, z, by omega, by omega, by go_num, rfl, HZ'⟩
          case measure => simp [intOf]; omega
      | false =>
        have HE := hide he
        clear he
        have HZ' := hide (maxL_pass hkl.out (fun h => by have := h.1; rw [HE.out] at this; cases this) hz.out)
        obtain ⟨R, hRe⟩ : ∃ R, R = (l.getD k wr0).2.1 := ⟨_, rfl⟩
        have he' : ((l.getD k wr0).2.1.toList == r.toList) = false := HE.out
        rw [← hRe] at e1 he'
        clear hRe
        go_wp2_with fail
        go_round
        case rel => exact ⟨k + 1, z, by omega, by omega, by go_num, rfl, HZ'⟩
        case measure => simp [intOf]; omega
    · obtain rfl : n = k := by omega
      go_wp2_with fail
      go_ret
      refine ⟨ret_int64 ?_, rfl⟩
      rw [← hz.out, List.drop_of_length_le (Nat.le_of_eq HL.out)]
      rfl
end Go.Proofs.Qxb6617231a

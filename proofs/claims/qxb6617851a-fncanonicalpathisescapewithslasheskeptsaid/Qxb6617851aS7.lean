import Derived.Test.Qxb6617851aS6
import Derived.Laws.MakeOwn
namespace Go.Proofs.Qxb6617851a
open Go.RowKit
attribute [local go_sem ↓] Go.wp_at_zero Go.wp_at_succ

theorem esc_append (ks : Bool) (a b : List UInt8) : esc ks (a ++ b) = esc ks a ++ esc ks b := by
  unfold esc
  rw [List.flatMap_append]
theorem esc_split (ks : Bool) (l : List UInt8) (m : Nat) (h : m < l.length) : esc ks l = esc ks (l.take m) ++ (escB ks l[m] ++ esc ks (l.drop (m + 1))) := by
  have e : l = l.take m ++ ([l[m]] ++ l.drop (m + 1)) := by
    rw [List.singleton_append, List.getElem_cons_drop, List.take_append_drop]
  have e2 : esc ks l = esc ks (l.take m ++ ([l[m]] ++ l.drop (m + 1))) := congrArg (esc ks) e
  rw [e2, esc_append, esc_append]
  have e3 : esc ks [l[m]] = escB ks l[m] := by simp [esc]
  rw [e3]
theorem esc_next (ks : Bool) (l : List UInt8) (m : Nat) (h : m < l.length) : esc ks (l.take (m + 1)) = esc ks (l.take m) ++ escB ks l[m] := by
  rw [List.take_succ_eq_append_getElem h, esc_append]
  simp [esc]

theorem esc_long (ks : Bool) (l : List UInt8) : l.length ≤ (esc ks l).length := by
  induction l with
  | nil => simp
  | cons c l ih =>
    have h1 : 0 < (escB ks c).length := List.length_pos_iff.2 (escB_ne ks c)
    unfold esc at ih ⊢
    rw [List.flatMap_cons, List.length_append, List.length_cons]
    omega

/-- a byte of a string, looked at -/
theorem idx_run (s : ByteArray) (a b : List UInt8) (c : UInt8) (n : Nat) (hs : s.data.toList = a ++ c :: b) (hn : a.length = n) (w : World) : (Instr.index 9 (.string s) (.int .i64 (n : Int))).run Try.prog w = .ok (.int .u8 (c.toNat : Int)) w := by
  have hlt : n < s.size := by
    have := congrArg List.length hs
    rw [List.length_append, List.length_cons] at this
    have e : s.data.toList.length = s.size := by simp
    omega
  rw [run_index_string w 9 s .i64 n Try.underlying9, dif_pos (by omega)]
  have e : s[((n : Int)).toNat]'(by omega) = c := by
    show s.data[((n : Int)).toNat]'(by simpa using hlt) = c
    have e1 : s.data.toList[n]'(by simpa using hlt) = c := by
      simp only [hs]
      rw [List.getElem_append_right (by omega)]
      simp [hn]
    simpa using e1
  rw [e]

theorem keep_ne (ks : Bool) (c : UInt8) (h : keepB ks c = true) : ((c.toNat : Int) == 37) = false := by
  rw [beq_eq_false_iff_ne]
  unfold keepB at h
  simp only [Bool.or_eq_true, Bool.and_eq_true, decide_eq_true_eq] at h
  omega
theorem hexV_hexU (n : Nat) (h : n < 16) : hexV ((hexU n).toNat : Int) = n ∧ hexOK ((hexU n).toNat : Int) = true := by
  have : ∀ n : Fin 16, hexV ((hexU n.val).toNat : Int) = (n.val : Int) ∧ hexOK ((hexU n.val).toNat : Int) = true := by decide +kernel
  exact this ⟨n, h⟩
theorem read_digit (n : Nat) (h : n < 16) (w : World) : Calls Try.prog 14 #[.int .u8 ((hexU n).toNat : Int)] w fun e w' => e = .returned (.tuple #[.int .u8 (n : Int), .bool true]) ∧ w = w' := by
  have h1 := zzHexDigit_any ((hexU n).toNat : Int) (by omega) (by have := (hexU n).toNat_lt; omega) w
  rw [(hexV_hexU n h).1, (hexV_hexU n h).2] at h1
  exact h1

theorem or_nibs (x y : Int) (h0 : 0 ≤ x) (h1 : x ≤ 15) (k0 : 0 ≤ y) (k1 : y ≤ 15) : bits .or .u8 (x * 16) y = x * 16 + y := by
  have : ∀ a b : Fin 16, bits .or .u8 ((a.val : Int) * 16) (b.val : Int) = (a.val : Int) * 16 + (b.val : Int) := by decide +kernel
  have h := this ⟨x.toNat, by omega⟩ ⟨y.toNat, by omega⟩
  have e1 : ((x.toNat : Nat) : Int) = x := by omega
  have e2 : ((y.toNat : Nat) : Int) = y := by omega
  simpa only [e1, e2] using h

set_option maxRecDepth 4000 in
set_option maxHeartbeats 4000000 in
theorem decode_any (ks : Bool) (l : List UInt8) (s : ByteArray) (hs : s.data.toList = esc ks l) (hz : s.size ≤ 1000000) (w : World) :
    Calls Try.prog 16 #[.string s] w fun e w' => e = .returned (.tuple #[.string ⟨l.toArray⟩, .bool true]) ∧ Below w.heap.size w w' := by
  obtain ⟨i0, hi, hz0, hz1, hz2⟩ := info_parts Try.info5
  have hsz : s.size = (esc ks l).length := by rw [← hs]; simp
  have hll : l.length ≤ s.size := by rw [hsz]; exact esc_long ks l
  have HS := hide hs
  clear hs
  have HZ := hide hsz
  clear hsz
  obtain ⟨w1, hmk, hown1, hgr⟩ := run_make_own (P := Try.prog) w w.heap.size 24 5 i0 (.int .u8 0) 1 Try.underlying24 hi hz0 hz1 .i64 .i64 s.size (by rw [hz2]; omega) (by unfold maxLen; omega) (Nat.le_refl _)
  have HB1 : Hid (Below w.heap.size w w1) := hide ((Below.refl w.heap.size w).grown hgr (Nat.le_refl _) (fun k h => by cases h))
  have HO1 := hide hown1
  clear hown1 hgr
  go_enter Try.func16, Try.ntmps16
  go_wp2_with fail
  clear hmk
  go_loopw [4, 5] (fun v i wr => ∃ m : Nat, m ≤ l.length ∧ wr.ownsRow w.heap.size 5 1 v (l.take m).length (bcells (l.take m)) ∧ i = .int .i64 ((esc ks (l.take m)).length : Nat) ∧ Below w.heap.size w wr) (fun _ i _ => s.size - (intOf i).toNat)
  case atStart => exact ⟨0, Nat.zero_le _, HO1.out, rfl, HB1.out⟩
  case round =>
    obtain ⟨m, hm, hown, rfl, hbk⟩ := hrel
    have HO := hide hown
    clear hown
    have hbk1 := hbk.size
    by_cases hlt : m < l.length
    · have HT : Hid (l.take (m + 1) = l.take m ++ [l[m]]) := hide (List.take_succ_eq_append_getElem hlt)
      have hspl := (HS.out).trans (esc_split ks l m hlt)
      have hnx := esc_next ks l m hlt
      have hlm : (l.take m).length = m := by rw [List.length_take]; omega
      have hml : (l.take m).length ≤ 1000000 := by rw [List.length_take]; omega
      by_cases hk : keepB ks l[m] = true
      · have hb : escB ks l[m] = [l[m]] := by rw [escB, if_pos hk]
        rw [hb] at hspl hnx
        have hi0 := fun wx => idx_run s _ _ l[m] _ hspl rfl wx
        have hln : (esc ks (l.take (m + 1))).length = (esc ks (l.take m)).length + 1 := by rw [hnx, List.length_append]; rfl
        have hp : (esc ks (l.take m)).length + 1 ≤ s.size := by
          have := congrArg List.length hspl
          simp only [List.length_append, List.length_cons, List.length_nil] at this
          have e : s.data.toList.length = s.size := by simp
          omega
        have hne := keep_ne ks l[m] hk
        have HLN := hide hln
        clear hln hnx hspl hb hk HS
        generalize (esc ks (l.take m)).length = p at *
        have FIN : Hid (∀ (v' : Value) (w1 : World), w1.ownsRow w.heap.size 5 1 v' (m + 1) (bcells (l.take m) ++ [.int .u8 (l[m].toNat : Int)]) → (wr.alloc (.cells #[.int .u8 (l[m].toNat : Int)] 5)).grownBy w1 u4.ownBlock → Hid (w1.ownsRow w.heap.size 5 1 v' (l.take (m + 1)).length (bcells (l.take (m + 1))) ∧ Below w.heap.size w w1)) := hide fun v' w1 h1 h2 => hide ⟨own_keep HT.out (by rw [hlm]; exact h1), (hbk.alloc hbk.size _).grown h2 (Nat.le_trans hbk.size (by simp)) (fun j hj => (HO.out.lt j hj).1)⟩
        go_wp2_with (at_builtin; go_must (refine wpList_append_own _ rfl (.tmp 23) (.tmp 25) 24 rfl w.heap.size 5 i0 _ 1 1 Try.underlying24 hi hz0 hz1 hz2 rfl (by decide) _ _ _ rfl (HO.out.alloc _) ⟨wr.heap.size, 0, none⟩ 1 1 [.int .u8 (l[m].toNat : Int)] rfl rfl (by have := news_alloc2 wr [.int .u8 (l[m].toNat : Int)] 5; simpa using this) (one_oneCell _) (by unfold maxLen; omega) (by omega) (Nat.le_trans hbk1 (by simp)) ?_))
        intro v' w3 h1 h2 _
        have hF := FIN.out v' w3 h1 h2
        clear h1 h2 FIN HO
        go_wp2_with fail
        go_roundw
        case rel => exact ⟨m + 1, by omega, hF.out.1, by rw [HLN.out]; go_num, hF.out.2⟩
        case measure => simp [intOf]; omega
      · have hb : escB ks l[m] = [37, hexU (l[m].toNat / 16), hexU (l[m].toNat % 16)] := by rw [escB, if_neg hk]
        rw [hb] at hspl hnx
        have hi0 := fun wx => idx_run s _ _ 37 _ hspl rfl wx
        have hi1 : ∀ wx, (Instr.index 9 (.string s) (.int .i64 (((esc ks (l.take m)).length : Int) + 1))).run Try.prog wx = .ok (.int .u8 ((hexU (l[m].toNat / 16)).toNat : Int)) wx := fun wx => idx_run s (esc ks (l.take m) ++ [37]) _ (hexU (l[m].toNat / 16)) ((esc ks (l.take m)).length + 1) (by rw [hspl, List.append_assoc]; rfl) (by rw [List.length_append]; rfl) wx
        have hi2 : ∀ wx, (Instr.index 9 (.string s) (.int .i64 (((esc ks (l.take m)).length : Int) + 2))).run Try.prog wx = .ok (.int .u8 ((hexU (l[m].toNat % 16)).toNat : Int)) wx := fun wx => idx_run s (esc ks (l.take m) ++ [37, hexU (l[m].toNat / 16)]) _ (hexU (l[m].toNat % 16)) ((esc ks (l.take m)).length + 2) (by rw [hspl, List.append_assoc]; rfl) (by rw [List.length_append]; rfl) wx
        have hln : (esc ks (l.take (m + 1))).length = (esc ks (l.take m)).length + 3 := by rw [hnx, List.length_append]; rfl
        have hp : (esc ks (l.take m)).length + 3 ≤ s.size := by
          have := congrArg List.length hspl
          simp only [List.length_append, List.length_cons, List.length_nil] at this
          have e : s.data.toList.length = s.size := by simp
          omega
        have hc := l[m].toNat_lt
        have H1 := hide (read_digit (l[m].toNat / 16) (by omega) wr)
        have H2 := hide (read_digit (l[m].toNat % 16) (by omega) wr)
        have HLN := hide hln
        clear hln hnx hspl hb hk HS
        generalize (esc ks (l.take m)).length = p at *
        have hx : ((l[m].toNat / 16 : Nat) : Int) ≤ 15 := by omega
        have hy : ((l[m].toNat % 16 : Nat) : Int) ≤ 15 := by omega
        have hx0 : 0 ≤ ((l[m].toNat / 16 : Nat) : Int) := by omega
        have hy0 : 0 ≤ ((l[m].toNat % 16 : Nat) : Int) := by omega
        have hxy : ((l[m].toNat / 16 : Nat) : Int) * 16 + ((l[m].toNat % 16 : Nat) : Int) = (l[m].toNat : Int) := by omega
        have FIN : Hid (∀ (v' : Value) (w1 : World), w1.ownsRow w.heap.size 5 1 v' (m + 1) (bcells (l.take m) ++ [.int .u8 (l[m].toNat : Int)]) → (wr.alloc (.cells #[.int .u8 (l[m].toNat : Int)] 5)).grownBy w1 u4.ownBlock → Hid (w1.ownsRow w.heap.size 5 1 v' (l.take (m + 1)).length (bcells (l.take (m + 1))) ∧ Below w.heap.size w w1)) := hide fun v' w1 h1 h2 => hide ⟨own_keep HT.out (by rw [hlm]; exact h1), (hbk.alloc hbk.size _).grown h2 (Nat.le_trans hbk.size (by simp)) (fun j hj => (HO.out.lt j hj).1)⟩
        generalize ((l[m].toNat / 16 : Nat) : Int) = X at *
        generalize ((l[m].toNat % 16 : Nat) : Int) = Y at *
        generalize ((hexU (l[m].toNat / 16)).toNat : Int) = A at *
        generalize ((hexU (l[m].toNat % 16)).toNat : Int) = B at *
        generalize (l[m].toNat : Int) = C at *
        go_wp2_with fail
        refine H1.out.mono ?_
        clear H1
        rintro e w' ⟨rfl, rfl⟩
        go_wp2_with fail
        refine H2.out.mono ?_
        clear H2
        rintro e w' ⟨rfl, rfl⟩
        have hor : bits .or .u8 (X * 16) Y = C := by rw [or_nibs X Y hx0 hx hy0 hy, hxy]
        clear hxy
        go_wp2_with (at_builtin; go_must (refine wpList_append_own _ rfl (.tmp 56) (.tmp 61) 24 rfl w.heap.size 5 i0 _ 1 1 Try.underlying24 hi hz0 hz1 hz2 rfl (by decide) _ _ _ rfl (HO.out.alloc _) ⟨wr.heap.size, 0, none⟩ 1 1 [.int .u8 C] rfl rfl (by have := news_alloc2 wr [.int .u8 C] 5; simpa using this) (one_oneCell _) (by unfold maxLen; omega) (by omega) (Nat.le_trans hbk1 (by simp)) ?_))
        intro v' w3 h1 h2 _
        have hF := FIN.out v' w3 h1 h2
        clear h1 h2 FIN HO hor hi0 hi1 hi2
        go_wp2_with fail
        go_roundw
        case rel => exact ⟨m + 1, by omega, hF.out.1, by rw [HLN.out]; go_num, hF.out.2⟩
        case measure => simp [intOf]; omega
    · obtain rfl : m = l.length := by omega
      have hst : (esc ks (l.take l.length)).length = s.size := by rw [List.take_length, HZ.out]
      have hcv := conv_own HO.out
      rw [List.take_length] at hcv
      rw [hst]
      clear HO hst
      go_wp2_with fail
      go_ret2
      exact ⟨rfl, hbk⟩
end Go.Proofs.Qxb6617851a

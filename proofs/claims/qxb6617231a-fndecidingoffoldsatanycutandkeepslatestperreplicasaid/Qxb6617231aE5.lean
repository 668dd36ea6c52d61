import Derived.Test.Qxb6617231aE4
namespace Go.Proofs.Qxb6617231a
open Go.RowKit

set_option maxHeartbeats 1000000 in
/-- latestPerReplica where no put or delete is among the writes -/
theorem latest_none (ab : Option Addr) (nb cb : Nat) (bl : List (Int × ByteArray)) (aw : Option Addr) (nw cw : Nat) (wl : List (Int × ByteArray × Int)) (w : World) (hnb : nb ≤ 4096) (hn : nw ≤ 4096) (hB : Hid (StIn w ab nb bl)) (hW : Hid (WrIn w aw nw wl))
    (hr2 : Hid (∀ j, j < nw → repl (wl.getD j wr0) = false)) :
    Calls Try.prog 11 #[.slice ab nb cb, .slice aw nw cw] w fun e w' => ∃ v', e = .returned v' ∧ w'.ownsRow w.heap.size 53 2 v' (upR [] wl bl ++ newR (repsB bl) wl).length (cells2 (upR [] wl bl ++ newR (repsB bl) wl)) ∧ Below w.heap.size w w' := by
  obtain ⟨i0, hi, hz0, hz1, hz2⟩ := info_parts Try.info53
  have HL := hide hW.out.1
  have HLb := hide hB.out.1
  obtain ⟨up, hup⟩ : ∃ up, up = upR [] wl bl := ⟨_, rfl⟩
  obtain ⟨tot, htot⟩ : ∃ tot, tot = up ++ newR (repsB bl) wl := ⟨_, rfl⟩
  have HU : Hid ([] ++ upR (seenL (fun i => (bl.getD i st0).2) 0 0) wl (bl.drop 0) = up) := hide (by rw [seenL_self, hup]; rfl)
  have HT : Hid (up ++ newR (repsB bl ++ seenL (fun i => (wl.getD i wr0).2.1) 0 0) (wl.drop 0) = tot) := hide (by rw [seenL_self, htot, List.append_nil]; rfl)
  rw [← hup, ← htot]
  clear hup htot
  go_enter Try.func11, Try.ntmps11
  go_wp2_with fail
  go_loop [5, 6, 7] (fun f kb i => ∃ k : Nat, k ≤ nw ∧ i = .int .i64 k ∧ f = .int .i64 0 ∧ kb = .bool true) (fun _ _ i => nw - (intOf i).toNat)
  case atStart => exact ⟨0, Nat.zero_le _, rfl, rfl, rfl⟩
  case round =>
    obtain ⟨k, hk, rfl, rfl, rfl⟩ := hrel
    by_cases hlt : k < nw
    · obtain ⟨b, off, rfl, _, _, e2⟩ := hW.out.2 k hlt
      have H14 := isRepl_any (wl.getD k wr0) w
      rw [hr2.out k hlt] at H14
      obtain ⟨x, hx⟩ : ∃ x, x = (wl.getD k wr0).2.2 := ⟨_, rfl⟩
      rw [← hx] at e2 H14
      clear hx
      go_wp2_with (go_at_call 14; refine H14.mono ?_; clear H14; rintro e w' ⟨rfl, rfl⟩)
      go_round
      case rel => exact ⟨k + 1, by omega, by go_num, rfl, rfl⟩
      case measure => simp [intOf]; omega
    · obtain rfl : nw = k := by omega
      go_wp2_with fail
      go_loopw [8, 9] (fun v i wr => ∃ (j : Nat) (o : List (Int × ByteArray)), j ≤ nb ∧ o.length ≤ j ∧ i = .int .i64 j ∧ wr.ownsRow w.heap.size 53 2 v o.length (cells2 o) ∧ Hid (o ++ upR (seenL (fun i => (bl.getD i st0).2) 0 j) wl (bl.drop j) = up) ∧ Below w.heap.size w wr) (fun _ i _ => nb - (intOf i).toNat)
      case atStart => exact ⟨0, [], Nat.zero_le _, Nat.zero_le _, rfl, World.ownsRow_nil _ _ _ _, HU, Below.refl _ _⟩
      case round =>
        obtain ⟨j, o, hj, hol, rfl, hown, hoj, hbj⟩ := hrel
        have HO := hide hown
        clear hown
        by_cases hjb : j < nb
        · have HBr := hide (hB.out.below hbj)
          obtain ⟨b, off, rfl, e0, e1⟩ := HBr.out.2 j hjb
          have hbx : ∀ o q, Below wr.heap.size wr ((wr.alloc o).drewN q) := fun o q => ((Below.refl _ wr).alloc (Nat.le_refl _) o).trans (drewB _ _ _)
          have H24 : Hid (∀ o, Calls Try.prog 24 #[.slice (some ⟨b, off, none⟩) nb cb, .int .i64 (j : Int)] (wr.alloc o) fun e w' => e = .returned (.bool (!SeenB (fun i => (bl.getD i st0).2) 0 j (bl.getD j st0).2)) ∧ ∃ q, w' = (wr.alloc o).drewN q) := hide (fun o => firstOf_any (some ⟨b, off, none⟩) nb cb j (fun i => (bl.getD i st0).2) (wr.alloc o) (by omega) hjb (hide (fun i hi => by
            obtain ⟨b', off', e, _, q1⟩ := HBr.out.2 i hi
            exact ⟨b', off', e, cell_later ((Below.refl _ wr).alloc (Nat.le_refl _) o) q1⟩)))
          have H25 : Hid (∀ o q, Calls Try.prog 25 #[.slice aw nw cw, .int .i64 0, .string (bl.getD j st0).2, .int .i64 (bl.getD j st0).1] ((wr.alloc o).drewN q) fun e w' => e = .returned (.int .i64 (maxL (wl.drop 0) (bl.getD j st0).2 (bl.getD j st0).1)) ∧ (wr.alloc o).drewN q = w') := hide (fun o q => maxTime_any aw nw cw 0 wl (bl.getD j st0).2 (bl.getD j st0).1 _ (by omega) (Nat.zero_le _) (hide (hW.out.below (hbj.trans ((hbx o q).mono hbj.size)))))
          have HN := hide (upR_step (by rw [HLb.out]; exact hjb) hoj.out)
          have hde : Hid (bl.getD j st0 = ((bl.getD j st0).1, (bl.getD j st0).2)) := hide rfl
          generalize hZ : maxL (wl.drop 0) (bl.getD j st0).2 (bl.getD j st0).1 = Z at *
          rw [show maxL wl (bl.getD j st0).2 (bl.getD j st0).1 = Z from hZ] at HN
          clear hZ
          obtain ⟨R, hRe⟩ : ∃ R, R = (bl.getD j st0).2 := ⟨_, rfl⟩
          obtain ⟨T, hTe⟩ : ∃ T, T = (bl.getD j st0).1 := ⟨_, rfl⟩
          rw [← hRe] at e1 H24 H25 HN hde
          rw [← hTe] at e0 H25 hde
          rw [hde.out] at HN
          clear hRe hTe hde
          cases hs : SeenB (fun i => (bl.getD i st0).2) 0 j R with
          | true =>
            rw [hs] at H24 HN
            simp only [if_true] at HN
            clear hs H25
            go_wp2_with fail
            refine (H24.out _).mono ?_
            clear H24
            rintro e w' ⟨rfl, q, hq⟩
            rw [hq]
            clear hq
            have hbq : Below wr.heap.size wr ((wr.alloc (.cells #[.int .i64 T, .string R] 53)).drewN q) := ((Below.refl _ wr).alloc (Nat.le_refl _) _).trans (drewB _ _ _)
            have HO1 := hide (HO.out.kept (grownBy_below hbq none) (by cases u8.ownBlock <;> simp))
            go_wp2_with (at_builtin; go_must (refine wpList_append_keep _ rfl _ _ 22 rfl w.heap.size 53 i0 _ 2 24 Try.underlying22 hi hz0 hz1 hz2 rfl (by decide) _ _ _ rfl (HO1.out.alloc _) ⟨wr.heap.size + 1, 0, none⟩ 1 1 [.int .i64 T, .string R] rfl rfl (by have := news_alloc2 ((wr.alloc (.cells #[.int .i64 T, .string R] 53)).drewN q) [.int .i64 T, .string R] 53; simpa using this) (sc2_oneCell T R) (by unfold maxLen; omega) (by omega) (Nat.le_trans hbj.size (by simp; omega)) ?_))
            intro v' w2 h1 h2 _
            have H1 := hide (own_snoc h1)
            have hb2 : Below w.heap.size w w2 := (alloc0 (Nat.le_refl _) (hbj.trans (hbq.mono hbj.size)) _).grown h2 (Nat.le_trans hbj.size (by simp; omega)) (fun j hj => (HO.out.lt j hj).1)
            clear h1 h2 HO HO1 e0 e1 hbq
            go_wp2_with fail
            go_roundw
            case rel => exact ⟨j + 1, o ++ [(T, R)], by omega, by simp; omega, by go_num, H1.out, HN, hb2⟩
            case measure => simp [intOf]; omega
          | false =>
            rw [hs] at H24 HN
            simp only [Bool.false_eq_true, if_false] at HN
            clear hs
            go_wp2_with fail
            refine (H24.out _).mono ?_
            clear H24
            rintro e w' ⟨rfl, q, hq⟩
            rw [hq]
            clear hq
            go_wp2_with fail
            refine (H25.out _ _).mono ?_
            clear H25
            rintro e w' ⟨rfl, hq⟩
            rw [← hq]
            clear hq
            have hbq : Below wr.heap.size wr (((wr.alloc (.cells #[.int .i64 T, .string R] 53)).drewN q).setCell ⟨wr.heap.size, 0, none⟩ (.int .i64 Z)) := setCell0 (Nat.le_refl _) (((Below.refl _ wr).alloc (Nat.le_refl _) _).trans (drewB _ _ _)) _
            have HO1 := hide (HO.out.kept (grownBy_below hbq none) (by cases u8.ownBlock <;> simp))
            go_wp2_with (at_builtin; go_must (refine wpList_append_keep _ rfl _ _ 22 rfl w.heap.size 53 i0 _ 2 24 Try.underlying22 hi hz0 hz1 hz2 rfl (by decide) _ _ _ rfl (HO1.out.alloc _) ⟨wr.heap.size + 1, 0, none⟩ 1 1 [.int .i64 Z, .string R] rfl rfl (by have := news_alloc2 (((wr.alloc (.cells #[.int .i64 T, .string R] 53)).drewN q).setCell ⟨wr.heap.size, 0, none⟩ (.int .i64 Z)) [.int .i64 Z, .string R] 53; simpa using this) (sc2_oneCell Z R) (by unfold maxLen; omega) (by omega) (Nat.le_trans hbj.size (by simp; omega)) ?_))
            intro v' w2 h1 h2 _
            have H1 := hide (own_snoc h1)
            have hb2 : Below w.heap.size w w2 := (alloc0 (Nat.le_refl _) (hbj.trans (hbq.mono hbj.size)) _).grown h2 (Nat.le_trans hbj.size (by simp; omega)) (fun j hj => (HO.out.lt j hj).1)
            clear h1 h2 HO HO1 e0 e1 hbq
            go_wp2_with fail
            go_roundw
            case rel => exact ⟨j + 1, o ++ [(Z, R)], by omega, by simp; omega, by go_num, H1.out, HN, hb2⟩
            case measure => simp [intOf]; omega
        · obtain rfl : nb = j := by omega
          have hup : o = up := by
            have := hoj.out
            rw [List.drop_of_length_le (Nat.le_of_eq HLb.out), upR, List.append_nil] at this
            exact this
          have HOu := hide HO.out
          rename World => wu
          clear HU hoj
          rw [hup] at HOu hol
          clear hup HO
          go_wp2_with fail
          go_loopw [8, 11] (fun v i wr => ∃ (k : Nat) (o : List (Int × ByteArray)), k ≤ nw ∧ o.length ≤ nb + k ∧ i = .int .i64 k ∧ wr.ownsRow w.heap.size 53 2 v o.length (cells2 o) ∧ Hid (o ++ newR (repsB bl ++ seenL (fun i => (wl.getD i wr0).2.1) 0 k) (wl.drop k) = tot) ∧ Below w.heap.size w wr) (fun _ i _ => nw - (intOf i).toNat)
          case atStart => exact ⟨0, up, Nat.zero_le _, hol, rfl, HOu.out, HT, hbj⟩
          case round =>
            obtain ⟨k, o, hk2, hol', rfl, hown, hok, hbk⟩ := hrel
            have HO := hide hown
            clear hown HOu hbj hol
            by_cases hlt' : k < nw
            · have HWr := hide (hW.out.below hbk)
              have HBr := hide (hB.out.below hbk)
              have hkl : Hid (k < wl.length) := hide (by rw [HL.out]; exact hlt')
              obtain ⟨b, off, rfl, e0, e1, _⟩ := HWr.out.2 k hlt'
              have H26 := inStamps_any ab nb cb (fun i => (bl.getD i st0).2) (wl.getD k wr0).2.1 wr (by omega) (hide (fun i hi => by
                obtain ⟨b', off', e, _, q1⟩ := HBr.out.2 i hi
                exact ⟨b', off', e, q1⟩))
              have H27 : Hid (Calls Try.prog 27 #[.slice (some ⟨b, off, none⟩) nw cw, .int .i64 0, .int .i64 (k : Int), .string (wl.getD k wr0).2.1] wr fun e w' => e = .returned (.bool (SeenB (fun i => (wl.getD i wr0).2.1) 0 k (wl.getD k wr0).2.1)) ∧ wr = w') := hide (seenBefore_any (some ⟨b, off, none⟩) nw cw 0 k (fun i => (wl.getD i wr0).2.1) (wl.getD k wr0).2.1 wr (by omega) (Nat.zero_le _) hk2 (hide (fun i hi => by
                obtain ⟨b', off', e, _, q1, _⟩ := HWr.out.2 i hi
                exact ⟨b', off', e, q1⟩)))
              have H25 : Hid (Calls Try.prog 25 #[.slice (some ⟨b, off, none⟩) nw cw, .int .i64 0, .string (wl.getD k wr0).2.1, .int .i64 (wl.getD k wr0).1] wr fun e w' => e = .returned (.int .i64 (maxL (wl.drop 0) (wl.getD k wr0).2.1 (wl.getD k wr0).1)) ∧ wr = w') := hide (maxTime_any (some ⟨b, off, none⟩) nw cw 0 wl (wl.getD k wr0).2.1 (wl.getD k wr0).1 wr (by omega) (Nat.zero_le _) HWr)
              have hmb : Hid (mem (repsB bl) (wl.getD k wr0).2.1 = SeenB (fun i => (bl.getD i st0).2) 0 nb (wl.getD k wr0).2.1) := hide (by rw [repsB_seenL, mem_seenL, HLb.out])
              cases hs1 : SeenB (fun i => (bl.getD i st0).2) 0 nb (wl.getD k wr0).2.1 with
              | true =>
                have HN := hide (newR_skip (Nat.zero_le _) hkl.out (by rw [mem_append, hmb.out, hs1]; rfl) hok.out)
                rw [hs1] at H26
                clear hs1 H25 H27 hmb
                obtain ⟨R, hRe⟩ : ∃ R, R = (wl.getD k wr0).2.1 := ⟨_, rfl⟩
                rw [← hRe] at e1 H26
                clear hRe
                go_wp2_with (go_at_call 26; refine H26.mono ?_; clear H26; rintro e w' ⟨rfl, rfl⟩)
                go_roundw
                case rel => exact ⟨k + 1, o, by omega, by omega, by go_num, HO.out, HN, hbk⟩
                case measure => simp [intOf]; omega
              | false =>
                rw [hs1] at H26
                cases hs : SeenB (fun i => (wl.getD i wr0).2.1) 0 k (wl.getD k wr0).2.1 with
                | true =>
                  have HN := hide (newR_skip (Nat.zero_le _) hkl.out (by rw [mem_append, mem_seenL, hs]; simp) hok.out)
                  rw [hs] at H27
                  clear hs hs1 H25 hmb
                  obtain ⟨R, hRe⟩ : ∃ R, R = (wl.getD k wr0).2.1 := ⟨_, rfl⟩
                  rw [← hRe] at e1 H26 H27
                  clear hRe
                  go_wp2_with (first | (go_at_call 26; refine H26.mono ?_; clear H26; rintro e w' ⟨rfl, rfl⟩) | (go_at_call 27; refine H27.out.mono ?_; clear H27; rintro e w' ⟨rfl, rfl⟩))
                  go_roundw
                  case rel => exact ⟨k + 1, o, by omega, by omega, by go_num, HO.out, HN, hbk⟩
                  case measure => simp [intOf]; omega
                | false =>
                  have HN := hide (newR_take (Nat.zero_le _) hkl.out (by rw [mem_append, mem_seenL, hs, hmb.out, hs1]; rfl) hok.out)
                  rw [hs] at H27
                  clear hs hs1 hmb
                  generalize maxL (wl.drop 0) (wl.getD k wr0).2.1 (wl.getD k wr0).1 = Z at *
                  obtain ⟨R, hRe⟩ : ∃ R, R = (wl.getD k wr0).2.1 := ⟨_, rfl⟩
                  obtain ⟨T, hTe⟩ : ∃ T, T = (wl.getD k wr0).1 := ⟨_, rfl⟩
                  rw [← hRe] at e1 H26 H27 H25 HN
                  rw [← hTe] at e0 H25
                  clear hRe hTe
                  go_wp2_with (first | (go_at_call 26; refine H26.mono ?_; clear H26; rintro e w' ⟨rfl, rfl⟩) | (go_at_call 27; refine H27.out.mono ?_; clear H27; rintro e w' ⟨rfl, rfl⟩) | (go_at_call 25; refine H25.out.mono ?_; clear H25; rintro e w' ⟨rfl, rfl⟩) | (at_builtin; go_must (refine wpList_append_keep _ rfl _ _ 22 rfl w.heap.size 53 i0 _ 2 24 Try.underlying22 hi hz0 hz1 hz2 rfl (by decide) _ _ _ rfl (HO.out.alloc _) ⟨wr.heap.size, 0, none⟩ 1 1 [.int .i64 Z, .string R] rfl rfl (by have := news_alloc2 wr [.int .i64 Z, .string R] 53; simpa using this) (sc2_oneCell Z R) (by unfold maxLen; omega) (by omega) (Nat.le_trans hbk.size (by simp)) ?_)))
                  intro v' w2 h1 h2 _
                  have H1 := hide (own_snoc h1)
                  have hb2 : Below w.heap.size w w2 := (hbk.alloc hbk.size _).grown h2 (Nat.le_trans hbk.size (by simp)) (fun j hj => (HO.out.lt j hj).1)
                  clear h1 h2 HO e0 e1
                  go_wp2_with fail
                  go_roundw
                  case rel => exact ⟨k + 1, o ++ [(Z, R)], by omega, by simp; omega, by go_num, H1.out, HN, hb2⟩
                  case measure => simp [intOf]; omega
            · obtain rfl : nw = k := by omega
              go_wp2_with fail
              go_ret
              have ho : o = tot := by
                have := hok.out
                rw [List.drop_of_length_le (Nat.le_of_eq HL.out), newR, List.append_nil] at this
                exact this
              rw [← ho]
              exact ⟨_, rfl, HO.out, hbk⟩
end Go.Proofs.Qxb6617231a

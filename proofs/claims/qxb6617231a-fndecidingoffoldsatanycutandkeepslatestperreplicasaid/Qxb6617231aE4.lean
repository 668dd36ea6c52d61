import Derived.Test.Qxb6617231aE3
namespace Go.Proofs.Qxb6617231a
open Go.RowKit

theorem Try.info53 : (Try.prog.info? 53).map (fun i => (i.zero, i.size, i.bytes)) = some (some (.agg #[.int .i64 0, .string ByteArray.empty]), 2, 24) := by kernel_rfl

/-- the replicas from lo up to k -/
def seenL (R : Nat → ByteArray) (lo k : Nat) : List ByteArray := (List.range (k - lo)).map fun i => R (lo + i)

theorem seenL_succ (R : Nat → ByteArray) (lo k : Nat) (h : lo ≤ k) : seenL R lo (k + 1) = seenL R lo k ++ [R k] := by
  unfold seenL
  rw [show k + 1 - lo = (k - lo) + 1 by omega, List.range_succ, List.map_append]
  simp [show lo + (k - lo) = k by omega]

theorem seenL_self (R : Nat → ByteArray) (lo : Nat) : seenL R lo lo = [] := by simp [seenL]

theorem mem_seenL (R : Nat → ByteArray) (lo k : Nat) (r : ByteArray) : mem (seenL R lo k) r = SeenB R lo k r := by
  rw [Bool.eq_iff_iff]
  unfold mem SeenB seenL
  rw [List.any_eq_true, List.any_eq_true]
  constructor
  · rintro ⟨x, hx, he⟩
    obtain ⟨i, hi, rfl⟩ := List.mem_map.1 hx
    have := List.mem_range.1 hi
    exact ⟨lo + i, List.mem_range.2 (by omega), by simp [he]⟩
  · rintro ⟨i, hi, he⟩
    have := List.mem_range.1 hi
    simp only [Bool.and_eq_true, decide_eq_true_eq] at he
    exact ⟨R i, List.mem_map.2 ⟨i - lo, List.mem_range.2 (by omega), by rw [show lo + (i - lo) = i by omega]⟩, he.2⟩

theorem repsB_seenL (bl : List (Int × ByteArray)) : repsB bl = seenL (fun i => (bl.getD i st0).2) 0 bl.length := by
  unfold repsB seenL
  apply List.ext_getElem?
  intro i
  by_cases hi : i < bl.length
  · simp [hi, List.getD]
  · simp [hi]

theorem SeenB_not {R : Nat → ByteArray} {lo hi : Nat} {r : ByteArray} (h : SeenB R lo hi r = false) : ∀ i, lo ≤ i → i < hi → eqs (R i) r = false := by
  intro i h1 h2
  cases he : eqs (R i) r with
  | false => rfl
  | true => rw [SeenB_yes h1 h2 he] at h; cases h

/-- those ahead of k are of other replicas: the greatest time is that from k on -/
theorem maxL_skip (l : List (Int × ByteArray × Int)) (lo k : Nat) (h1 : lo ≤ k) (hk : k < l.length) (h : ∀ i, lo ≤ i → i < k → eqs (l.getD i wr0).2.1 (l.getD k wr0).2.1 = false) :
    maxL (l.drop lo) (l.getD k wr0).2.1 (l.getD k wr0).1 = maxL (l.drop (k + 1)) (l.getD k wr0).2.1 (l.getD k wr0).1 := by
  obtain ⟨d, hd⟩ : ∃ d, k = lo + d := ⟨k - lo, by omega⟩
  induction d generalizing lo with
  | zero =>
    have : lo = k := by omega
    subst this
    rw [drop_cons l lo hk, maxL, if_neg (fun h => by have := h.2; omega)]
  | succ d ih =>
    rw [drop_cons l lo (by omega), maxL, if_neg (fun h' => by have := h lo (Nat.le_refl _) (by omega); rw [this] at h'; cases h'.1)]
    exact ih (lo + 1) (by omega) (fun i h2 h3 => h i (by omega) h3) (by omega)

/-- one write more: its replica has been seen -/
theorem newR_skip {o tot : List (Int × ByteArray)} {pre : List ByteArray} {l : List (Int × ByteArray × Int)} {lo k : Nat} (h1 : lo ≤ k) (hk : k < l.length) (hm : mem (pre ++ seenL (fun i => (l.getD i wr0).2.1) lo k) (l.getD k wr0).2.1 = true)
    (h : o ++ newR (pre ++ seenL (fun i => (l.getD i wr0).2.1) lo k) (l.drop k) = tot) : o ++ newR (pre ++ seenL (fun i => (l.getD i wr0).2.1) lo (k + 1)) (l.drop (k + 1)) = tot := by
  rw [drop_cons l k hk, newR, if_pos hm, List.nil_append] at h
  rw [seenL_succ _ _ _ h1, ← List.append_assoc]
  exact h

/-- one write more, of a new replica -/
theorem newR_take {o tot : List (Int × ByteArray)} {pre : List ByteArray} {l : List (Int × ByteArray × Int)} {lo k : Nat} (h1 : lo ≤ k) (hk : k < l.length) (hm : mem (pre ++ seenL (fun i => (l.getD i wr0).2.1) lo k) (l.getD k wr0).2.1 = false)
    (h : o ++ newR (pre ++ seenL (fun i => (l.getD i wr0).2.1) lo k) (l.drop k) = tot) :
    (o ++ [(maxL (l.drop lo) (l.getD k wr0).2.1 (l.getD k wr0).1, (l.getD k wr0).2.1)]) ++ newR (pre ++ seenL (fun i => (l.getD i wr0).2.1) lo (k + 1)) (l.drop (k + 1)) = tot := by
  have hm' : SeenB (fun i => (l.getD i wr0).2.1) lo k (l.getD k wr0).2.1 = false := by
    rw [mem_append, mem_seenL] at hm
    cases h2 : SeenB (fun i => (l.getD i wr0).2.1) lo k (l.getD k wr0).2.1 with
    | false => rfl
    | true => rw [h2] at hm; simp at hm
  rw [maxL_skip l lo k h1 hk (SeenB_not hm')]
  rw [drop_cons l k hk, newR, if_neg (fun h' => by rw [hm] at h'; cases h')] at h
  rw [seenL_succ _ _ _ h1, ← List.append_assoc pre, ← h, List.append_assoc]

/-- one of base's -/
theorem upR_step {o tot : List (Int × ByteArray)} {t : List (Int × ByteArray × Int)} {bl : List (Int × ByteArray)} {j : Nat} (hj : j < bl.length)
    (h : o ++ upR (seenL (fun i => (bl.getD i st0).2) 0 j) t (bl.drop j) = tot) :
    (o ++ [if SeenB (fun i => (bl.getD i st0).2) 0 j (bl.getD j st0).2 = true then bl.getD j st0 else (maxL t (bl.getD j st0).2 (bl.getD j st0).1, (bl.getD j st0).2)]) ++ upR (seenL (fun i => (bl.getD i st0).2) 0 (j + 1)) t (bl.drop (j + 1)) = tot := by
  have e : bl.drop j = bl.getD j st0 :: bl.drop (j + 1) := by
    rw [List.drop_eq_getElem_cons hj, List.getD_eq_getElem?_getD, List.getElem?_eq_getElem hj]
    rfl
  rw [e, upR, mem_seenL] at h
  rw [seenL_succ _ _ _ (Nat.zero_le _), ← h, List.append_assoc]
  rfl

theorem own_snoc {w : World} {B : Nat} {v : Value} {o : List (Int × ByteArray)} {t : Int} {r : ByteArray} (h : w.ownsRow B 53 2 v (o.length + 1) (cells2 o ++ [.int .i64 t, .string r])) : w.ownsRow B 53 2 v (o ++ [(t, r)]).length (cells2 (o ++ [(t, r)])) := by
  rw [cells2_append, List.length_append]
  exact h

set_option maxHeartbeats 1000000 in
/-- latestPerReplica where a put or a delete is among the writes -/
theorem latest_last (ab : Option Addr) (nb cb : Nat) (aw : Option Addr) (nw cw r : Nat) (wl : List (Int × ByteArray × Int)) (w : World) (hn : nw ≤ 4096) (hrn : r < nw) (hW : Hid (WrIn w aw nw wl))
    (hr1 : Hid (repl (wl.getD r wr0) = true)) (hr2 : Hid (∀ j, r < j → j < nw → repl (wl.getD j wr0) = false)) :
    Calls Try.prog 11 #[.slice ab nb cb, .slice aw nw cw] w fun e w' => ∃ v', e = .returned v' ∧ w'.ownsRow w.heap.size 53 2 v' (newR [] (wl.drop r)).length (cells2 (newR [] (wl.drop r))) ∧ Below w.heap.size w w' := by
  obtain ⟨i0, hi, hz0, hz1, hz2⟩ := info_parts Try.info53
  have HL := hide hW.out.1
  obtain ⟨tot, htot⟩ : ∃ tot, tot = newR [] (wl.drop r) := ⟨_, rfl⟩
  have HT : Hid ([] ++ newR ([] ++ seenL (fun i => (wl.getD i wr0).2.1) r r) (wl.drop r) = tot) := hide (by rw [seenL_self, htot]; rfl)
  rw [← htot]
  clear htot
  go_enter Try.func11, Try.ntmps11
  go_wp2_with fail
  go_loop [5, 6, 7] (fun f kb i => ∃ (k : Nat) (fz : Int) (bb : Bool), k ≤ nw ∧ i = .int .i64 k ∧ f = .int .i64 fz ∧ kb = .bool bb ∧ Hid (r < k → fz = (r : Int) ∧ bb = false)) (fun _ _ i => nw - (intOf i).toNat)
  case atStart => exact ⟨0, 0, true, Nat.zero_le _, rfl, rfl, rfl, hide (fun h => absurd h (by omega))⟩
  case round =>
    obtain ⟨k, fz, bb, hk, rfl, rfl, rfl, hfk⟩ := hrel
    by_cases hlt : k < nw
    · obtain ⟨b, off, rfl, _, _, e2⟩ := hW.out.2 k hlt
      have H14 := isRepl_any (wl.getD k wr0) w
      obtain ⟨x, hx⟩ : ∃ x, x = (wl.getD k wr0).2.2 := ⟨_, rfl⟩
      rw [← hx] at e2 H14
      clear hx
      cases hrp : repl (wl.getD k wr0) with
      | true =>
        rw [hrp] at H14
        have HRk := hide hrp
        clear hrp
        go_wp2_with (go_at_call 14; refine H14.mono ?_; clear H14; rintro e w' ⟨rfl, rfl⟩)
        go_round
        case rel =>
          refine ⟨k + 1, (k : Int), false, by omega, by go_num, rfl, rfl, hide (fun h => ⟨?_, rfl⟩)⟩
          by_cases e : k = r
          · rw [e]
          · have := hr2.out k (by omega) hlt; rw [HRk.out] at this; cases this
        case measure => simp [intOf]; omega
      | false =>
        rw [hrp] at H14
        have HRk := hide hrp
        clear hrp
        go_wp2_with (go_at_call 14; refine H14.mono ?_; clear H14; rintro e w' ⟨rfl, rfl⟩)
        go_round
        case rel =>
          refine ⟨k + 1, fz, bb, by omega, by go_num, rfl, rfl, hide (fun h => ?_)⟩
          by_cases e : k = r
          · subst e; have := HRk.out; rw [hr1.out] at this; cases this
          · exact hfk.out (by omega)
        case measure => simp [intOf]; omega
    · obtain rfl : nw = k := by omega
      obtain ⟨rfl, rfl⟩ := hfk.out hrn
      clear hfk
      go_wp2_with fail
      go_loopw [8, 11] (fun v i wr => ∃ (k : Nat) (o : List (Int × ByteArray)), r ≤ k ∧ k ≤ nw ∧ o.length ≤ k ∧ i = .int .i64 k ∧ wr.ownsRow w.heap.size 53 2 v o.length (cells2 o) ∧ Hid (o ++ newR ([] ++ seenL (fun i => (wl.getD i wr0).2.1) r k) (wl.drop k) = tot) ∧ Below w.heap.size w wr) (fun _ i _ => nw - (intOf i).toNat)
      case atStart => exact ⟨r, [], Nat.le_refl _, by omega, Nat.zero_le _, rfl, World.ownsRow_nil _ _ _ _, HT, Below.refl _ _⟩
      case round =>
        obtain ⟨k, o, hk1, hk2, hol, rfl, hown, hok, hbk⟩ := hrel
        have HO := hide hown
        clear hown
        by_cases hlt' : k < nw
        · have HWr := hide (hW.out.below hbk)
          have hkl : Hid (k < wl.length) := hide (by rw [HL.out]; exact hlt')
          obtain ⟨b, off, rfl, e0, e1, _⟩ := HWr.out.2 k hlt'
          have H27 := seenBefore_any (some ⟨b, off, none⟩) nw cw r k (fun i => (wl.getD i wr0).2.1) (wl.getD k wr0).2.1 wr (by omega) hk1 hk2 (hide (fun i hi => by
            obtain ⟨b', off', e, _, q1, _⟩ := HWr.out.2 i hi
            exact ⟨b', off', e, q1⟩))
          have H25 := maxTime_any (some ⟨b, off, none⟩) nw cw r wl (wl.getD k wr0).2.1 (wl.getD k wr0).1 wr (by omega) (by omega) HWr
          cases hs : SeenB (fun i => (wl.getD i wr0).2.1) r k (wl.getD k wr0).2.1 with
          | true =>
            have HN := hide (newR_skip hk1 hkl.out (by rw [mem_append, mem_seenL, hs]; simp) hok.out)
            rw [hs] at H27
            clear hs H25
            obtain ⟨R, hRe⟩ : ∃ R, R = (wl.getD k wr0).2.1 := ⟨_, rfl⟩
            rw [← hRe] at e1 H27
            clear hRe
            go_wp2_with (go_at_call 27; refine H27.mono ?_; clear H27; rintro e w' ⟨rfl, rfl⟩)
            go_roundw
            case rel => exact ⟨k + 1, o, by omega, by omega, by omega, by go_num, HO.out, HN, hbk⟩
            case measure => simp [intOf]; omega
          | false =>
            have HN := hide (newR_take hk1 hkl.out (by rw [mem_append, mem_seenL, hs]; rfl) hok.out)
            rw [hs] at H27
            clear hs
            generalize maxL (wl.drop r) (wl.getD k wr0).2.1 (wl.getD k wr0).1 = Z at *
            obtain ⟨R, hRe⟩ : ∃ R, R = (wl.getD k wr0).2.1 := ⟨_, rfl⟩
            obtain ⟨T, hTe⟩ : ∃ T, T = (wl.getD k wr0).1 := ⟨_, rfl⟩
            rw [← hRe] at e1 H27 H25 HN
            rw [← hTe] at e0 H25
            clear hRe hTe
            go_wp2_with (first | (go_at_call 27; refine H27.mono ?_; clear H27; rintro e w' ⟨rfl, rfl⟩) | (go_at_call 25; refine H25.mono ?_; clear H25; rintro e w' ⟨rfl, rfl⟩) | (at_builtin; go_must (refine wpList_append_keep _ rfl _ _ 22 rfl w.heap.size 53 i0 _ 2 24 Try.underlying22 hi hz0 hz1 hz2 rfl (by decide) _ _ _ rfl (HO.out.alloc _) ⟨wr.heap.size, 0, none⟩ 1 1 [.int .i64 Z, .string R] rfl rfl (by have := news_alloc2 wr [.int .i64 Z, .string R] 53; simpa using this) (sc2_oneCell Z R) (by unfold maxLen; omega) (by omega) (Nat.le_trans hbk.size (by simp)) ?_)))
            intro v' w2 h1 h2 _
            have H1 := hide (own_snoc h1)
            have hb2 : Below w.heap.size w w2 := (hbk.alloc hbk.size _).grown h2 (Nat.le_trans hbk.size (by simp)) (fun j hj => (HO.out.lt j hj).1)
            clear h1 h2 HO e0 e1
            go_wp2_with fail
            go_roundw
            case rel => exact ⟨k + 1, o ++ [(Z, R)], by omega, by omega, by simp; omega, by go_num, H1.out, HN, hb2⟩
            case measure => simp [intOf]; omega
        · obtain rfl : nw = k := by omega
          go_wp2_with fail
          go_ret
          have ho : o = tot := by
            have := hok.out
            rw [List.drop_of_length_le (Nat.le_of_eq HL.out), newR, List.append_nil] at this
            exact this
          rw [← ho]
          exact ⟨_, rfl, HO.out, hbk⟩
end Go.Proofs.Qxb6617231a

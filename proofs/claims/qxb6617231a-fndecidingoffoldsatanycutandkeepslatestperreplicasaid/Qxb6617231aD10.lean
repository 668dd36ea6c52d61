import Derived.Test.Qxb6617231aD9
namespace Go.Proofs.Qxb6617231a
open Go.RowKit

theorem Try.info34 : (Try.prog.info? 34).map (fun i => (i.zero, i.size, i.bytes)) = some (some (.agg #[.int .i64 0, .string ByteArray.empty, .int .u8 0]), 3, 32) := by kernel_rfl

theorem WrIn.cellAt {w : World} {ad : Addr} {n : Nat} {l : List (Int × ByteArray × Int)} (h : WrIn w (some ad) n l) : ∀ j u, (cellsW l)[j]? = some u → w.cell? (ad.add j) = some u := by
  intro j u hu
  have hj : j < n * 3 := by
    have := (List.getElem?_eq_some_iff.1 hu).1
    rwa [cellsW_length, h.1] at this
  have hi : j / 3 < n := by omega
  obtain ⟨b, off, e, c0, c1, c2⟩ := h.2 (j / 3) hi
  injection e with e
  subst e
  have hd : j = j / 3 * 3 + j % 3 := by omega
  have hg := flat_get wrC 3 (fun _ => rfl) wr0 l (j / 3) (j % 3) (by rw [h.1]; exact hi) (by omega)
  rw [← hd] at hg
  have hu' : (wrC (l.getD (j / 3) wr0))[j % 3]? = some u := hg.symm.trans hu
  rw [Addr.add_lit]
  rcases (by omega : j % 3 = 0 ∨ j % 3 = 1 ∨ j % 3 = 2) with h3 | h3 | h3
  · rw [h3] at hu' hd
    rw [show off + j = off + j / 3 * 3 by omega, c0]
    exact hu'
  · rw [h3] at hu' hd
    rw [show off + j = off + j / 3 * 3 + 1 by omega, c1]
    exact hu'
  · rw [h3] at hu' hd
    rw [show off + j = off + j / 3 * 3 + 2 by omega, c2]
    exact hu'

theorem WrIn.take {w : World} {ao : Option Addr} {n : Nat} {l : List (Int × ByteArray × Int)} (h : WrIn w ao n l) (m : Nat) (hm : m ≤ n) : WrIn w ao m (l.take m) := by
  refine ⟨by rw [List.length_take, h.1]; omega, fun i hi => ?_⟩
  obtain ⟨b, off, e, c0, c1, c2⟩ := h.2 i (by omega)
  have : (l.take m).getD i wr0 = l.getD i wr0 := by simp [List.getD, hi]
  rw [this]
  exact ⟨b, off, e, c0, c1, c2⟩

/-- 'ws[p:]' -/
theorem WrIn.drop {w : World} {ao : Option Addr} {n : Nat} {l : List (Int × ByteArray × Int)} (h : WrIn w ao n l) (cap m : Nat) (hm : m ≤ n) (hc : n ≤ cap) : WrIn w (if cap = m then ao else ao.map (·.add (m * 3))) (n - m) (l.drop m) := by
  refine ⟨by rw [List.length_drop, h.1], fun i hi => ?_⟩
  obtain ⟨b, off, e, c0, c1, c2⟩ := h.2 (m + i) (by omega)
  have : (l.drop m).getD i wr0 = l.getD (m + i) wr0 := by simp [List.getD]
  rw [this, if_neg (by omega), e]
  refine ⟨b, off + m * 3, ?_, ?_, ?_, ?_⟩
  · simp [Addr.add_lit]
  · rw [show off + m * 3 + i * 3 = off + (m + i) * 3 by omega]; exact c0
  · rw [show off + m * 3 + i * 3 + 1 = off + (m + i) * 3 + 1 by omega]; exact c1
  · rw [show off + m * 3 + i * 3 + 2 = off + (m + i) * 3 + 2 by omega]; exact c2

theorem cellsW_append (a b : List (Int × ByteArray × Int)) : cellsW (a ++ b) = cellsW a ++ cellsW b := by simp [cellsW]

/-- what the call itself has built, as writes in memory -/
theorem WrIn.of_own {w : World} {B g n cap : Nat} {l : List (Int × ByteArray × Int)} (hl : l.length = n) (h : w.ownsRow B 34 3 (.slice (some ⟨g, 0, none⟩) n cap) n (cellsW l)) : WrIn w (some ⟨g, 0, none⟩) n l := by
  refine ⟨hl, fun i hi => ⟨g, 0, rfl, ?_⟩⟩
  have hc := h.cells (g := g) rfl
  have a0 := flat_get wrC 3 (fun _ => rfl) wr0 l i 0 (by omega) (by omega)
  have a1 := flat_get wrC 3 (fun _ => rfl) wr0 l i 1 (by omega) (by omega)
  have a2 := flat_get wrC 3 (fun _ => rfl) wr0 l i 2 (by omega) (by omega)
  have b0 := hc (i * 3) _ (a0.trans rfl)
  have b1 := hc (i * 3 + 1) _ (a1.trans rfl)
  have b2 := hc (i * 3 + 2) _ (a2.trans rfl)
  rw [add0] at b0 b1 b2
  rw [Nat.zero_add]
  exact ⟨b0, b1, b2⟩

set_option maxHeartbeats 1000000 in
theorem put_walk (ab : Option Addr) (nb cb : Nat) (bl : List (Int × ByteArray)) (aw : Option Addr) (nw cw : Nat) (wl : List (Int × ByteArray × Int)) (p t o : Int) (r : ByteArray) (w : World)
    (hnb : nb ≤ maxLen) (hcw : nw ≤ cw) (hnw : nw ≤ maxLen) (h0b : Hid (ab = none → nb = 0 ∧ cb = 0)) (h0w : Hid (aw = none → nw = 0 ∧ cw = 0)) (hB : Hid (StIn w ab nb bl)) (hW : Hid (WrIn w aw nw wl)) :
    Calls Try.prog 4 #[.slice ab nb cb, .slice aw nw cw, .int .i64 p, .agg #[.int .i64 t, .string r, .int .u8 o]] w fun e w' => e = .returned (.bool true) ∧ Below w.heap.size w w' := by
  have hb0 : Below w.heap.size w (w.alloc (.cells #[.int .i64 t, .string r, .int .u8 o] 34)) := (Below.refl _ w).alloc (Nat.le_refl _) _
  have H13 := bytesPut_any ab nb cb bl aw nw cw wl p t o r (w.alloc (.cells #[.int .i64 t, .string r, .int .u8 o] 34)) hnb hnw (hide (hB.out.below hb0)) (hide (hW.out.below hb0))
  have k0 : (w.alloc (.cells #[.int .i64 t, .string r, .int .u8 o] 34)).cell? ⟨w.heap.size, 0, none⟩ = some (.int .i64 t) := by rw [cell_of_row _ _ _ _ _ _ (heap_alloc_new w _)]; rfl
  have k1 : (w.alloc (.cells #[.int .i64 t, .string r, .int .u8 o] 34)).cell? ⟨w.heap.size, 1, none⟩ = some (.string r) := by rw [cell_of_row _ _ _ _ _ _ (heap_alloc_new w _)]; rfl
  have k2 : (w.alloc (.cells #[.int .i64 t, .string r, .int .u8 o] 34)).cell? ⟨w.heap.size, 2, none⟩ = some (.int .u8 o) := by rw [cell_of_row _ _ _ _ _ _ (heap_alloc_new w _)]; rfl
  have HK := hide (And.intro k0 (And.intro k1 k2))
  clear k0 k1 k2
  go_enter Try.func4, Try.ntmps4
  go_wp2_with fail
  refine H13.mono ?_
  clear H13
  rintro e w1 ⟨bb, rfl, hb1⟩
  have hbw1 : Below w.heap.size w w1 := hb0.trans (hb1.mono (by simp))
  have k0 : w1.cell? ⟨w.heap.size, 0, none⟩ = some (.int .i64 t) := cell_later hb1 HK.out.1
  have k1 : w1.cell? ⟨w.heap.size, 1, none⟩ = some (.string r) := cell_later hb1 HK.out.2.1
  have k2 : w1.cell? ⟨w.heap.size, 2, none⟩ = some (.int .u8 o) := cell_later hb1 HK.out.2.2
  have hz1 : w.heap.size < w1.heap.size := Nat.lt_of_lt_of_le (by simp) hb1.size
  have HB := hide (hB.out.below hbw1)
  have HW := hide (hW.out.below hbw1)
  clear HK hb0 hb1 hB hW
  cases bb with
  | false =>
    go_wp2_with fail
    go_ret
    exact ⟨rfl, hbw1⟩
  | true =>
    have H7 := tooBig_any ab nb cb bl aw nw cw wl r w1 hnb hnw HB HW
    go_wp2_with fail
    refine H7.mono ?_
    clear H7
    rintro e w2 ⟨bb, rfl, rfl, hsm⟩
    cases bb with
    | true =>
      clear hsm
      go_wp2_with fail
      go_ret
      exact ⟨rfl, hbw1⟩
    | false =>
      obtain ⟨hnb', hnw'⟩ := hsm rfl
      clear hsm
      by_cases hp0 : p < 0
      · go_wp2_with fail
        go_ret
        exact ⟨rfl, hbw1⟩
      have hp0' : decide (p < 0) = false := by simpa using hp0
      by_cases hp1 : (nw : Int) < p
      · go_wp2_with fail
        go_ret
        exact ⟨rfl, hbw1⟩
      have hp1' : decide ((nw : Int) < p) = false := by simpa using hp1
      obtain ⟨pn, hpn⟩ : ∃ pn : Nat, p = (pn : Int) := ⟨p.toNat, by omega⟩
      subst hpn
      have hpw : pn ≤ nw := by omega
      clear hp0 hp1
      have H14 := isRepl_any (t, r, o) w1
      cases hrp : repl (t, r, o) with
      | false =>
        rw [hrp] at H14
        clear hrp
        go_wp2_with fail
        refine H14.mono ?_
        clear H14
        rintro e w2 ⟨rfl, rfl⟩
        go_wp2_with fail
        go_ret
        exact ⟨rfl, hbw1⟩
      | true =>
        rw [hrp] at H14
        have HR := hide hrp
        clear hrp
        go_wp2_with fail
        refine H14.mono ?_
        clear H14
        rintro e w2 ⟨rfl, rfl⟩
        obtain ⟨i0, hi, hz0, hz1', hz2⟩ := info_parts Try.info34
        go_wp2_with (at_make; go_must (refine wpList_make_own _ rfl _ _ 23 rfl w1.heap.size 34 i0 _ 3 Try.underlying23 hi hz0 hz1' _ _ _ (nw + 1) rfl rfl (by simp) (by rw [hz2]; omega) (by unfold maxLen; omega) (Nat.le_refl _) ?_))
        intro w3 ho3 hg3
        have hb3 : Below w1.heap.size w1 w3 := below_grownBy hg3
        obtain ⟨A, hA⟩ : ∃ A, A = wl.take pn := ⟨_, rfl⟩
        obtain ⟨C, hC⟩ : ∃ C, C = wl.drop pn := ⟨_, rfl⟩
        have HA : Hid (WrIn w1 aw pn A) := hide (by rw [hA]; exact HW.out.take pn hpw)
        obtain ⟨ao2, hao2⟩ : ∃ ao2, (if cw = pn then aw else aw.map (fun x => x.add (pn * 3))) = ao2 := ⟨_, rfl⟩
        have HC : Hid (WrIn w1 ao2 (nw - pn) C) := hide (by rw [hC, ← hao2]; exact HW.out.drop cw pn hpw hcw)
        have h02 : Hid (ao2 = none → nw - pn = 0 ∧ cw - pn = 0) := hide (fun e => by
          rw [← hao2] at e
          by_cases hcp : cw = pn
          · omega
          · rw [if_neg hcp] at e
            cases aw with
            | none => obtain ⟨a, b⟩ := h0w.out rfl; omega
            | some ad => cases e)
        have hAC := hide (And.intro hA hC)
        clear hA hC
        clear hg3 HW
        go_wp2_with (at_builtin; go_must (refine wpList_append_fits_any _ rfl (.tmp 41) (.tmp 44) 23 rfl w1.heap.size 34 i0 3 Try.underlying23 hi hz1' w1.heap.size 0 (nw + 1) [] rfl ho3 _ pn _ (cellsW A) rfl (by rw [cellsW_length, HA.out.1]) (fun e => by obtain ⟨a, b⟩ := h0w.out e; exact ⟨by omega, b⟩) (fun ad e => WrIn.cellAt (by rw [← e]; exact HA.out.below hb3)) (cellsW_oneCell A) (by omega) ?_))
        intro w4 ho4 hg4
        have hb4 : Below w1.heap.size w1 w4 := hb3.grown hg4 hb3.size (by simp)
        have q0 : w4.cell? ⟨w.heap.size, 0, none⟩ = some (.int .i64 t) := cell_later hb4 k0
        have q1 : w4.cell? ⟨w.heap.size, 1, none⟩ = some (.string r) := cell_later hb4 k1
        have q2 : w4.cell? ⟨w.heap.size, 2, none⟩ = some (.int .u8 o) := cell_later hb4 k2
        clear hg4 ho3 hb3
        go_wp2_with (at_builtin; go_must (refine wpList_append_fits _ rfl (.tmp 46) (.tmp 48) 23 rfl w1.heap.size 34 i0 3 Try.underlying23 hi hz1' w1.heap.size pn (nw + 1) (cellsW A) rfl (ho4.alloc _) ⟨w4.heap.size, 0, none⟩ 1 1 [.int .i64 t, .string r, .int .u8 o] rfl rfl (by have := news_alloc2 w4 [.int .i64 t, .string r, .int .u8 o] 34; simpa using this) (cellsW_oneCell [(t, r, o)]) (by omega) ?_))
        intro w5 ho5 hg5
        have hb5 : Below w1.heap.size w1 w5 := (hb4.alloc hb4.size _).grown hg5 (Nat.le_trans hb4.size (by simp)) (by simp)
        clear hg5 ho4 q0 q1 q2
        go_wp2_with (at_builtin; go_must (refine wpList_append_fits_any _ rfl (.tmp 50) (.tmp 53) 23 rfl w1.heap.size 34 i0 3 Try.underlying23 hi hz1' w1.heap.size (pn + 1) (nw + 1) _ rfl ho5 ao2 (nw - pn) (cw - pn) (cellsW C) rfl (by rw [cellsW_length, HC.out.1]) h02.out (fun ad e => WrIn.cellAt (by rw [← e]; exact HC.out.below hb5)) (cellsW_oneCell C) (by omega) ?_))
        intro w6 ho6 hg6
        have hb6 : Below w1.heap.size w1 w6 := hb5.grown hg6 hb5.size (by simp)
        clear hg6 ho5 hb5 hao2 h02 hi hz0 hz1' hz2
        have hN : pn + 1 + (nw - pn) = nw + 1 := by omega
        obtain ⟨I, hI⟩ : ∃ I, I = A ++ (t, r, o) :: C := ⟨_, rfl⟩
        have hIl : I.length = nw + 1 := by rw [hI, List.length_append, List.length_cons, HA.out.1, HC.out.1]; omega
        have ho6' : w6.ownsRow w1.heap.size 34 3 (.slice (some ⟨w1.heap.size, 0, none⟩) (nw + 1) (nw + 1)) (nw + 1) (cellsW I) := by
          rw [hN] at ho6
          rw [hI, cellsW_append]
          exact ho6
        have HI := hide (WrIn.of_own hIl ho6')
        rw [hN]
        have HL := hide hIl
        have HIe := hide hI
        have hgl : w1.heap.size < w6.heap.size := (ho6'.lt w1.heap.size rfl).2
        clear hIl hI ho6 ho6' hN HC
        have H9 := toStamps_any ab nb cb bl w6 (by omega) h0b.out (HB.out.below hb6)
        go_wp2_with fail
        refine H9.mono ?_
        clear H9
        rintro e w7 ⟨vb, rfl, r7, _, hb7⟩
        have H10 := toWrites_any (some ⟨w1.heap.size, 0, none⟩) (nw + 1) (nw + 1) I w7 (by omega) (fun e => by cases e) (HI.out.below hb7)
        have R7 := hide r7
        clear r7
        go_wp2_with fail
        refine H10.mono ?_
        clear H10
        rintro e w8 ⟨vw, rfl, r8, _, hb8⟩
        have hb68 : Below w6.heap.size w6 w8 := hb7.trans (hb8.mono hb7.size)
        have hbl := hide HB.out.1
        have H8 := zzDeciding_any vb vw bl I w8 (by rw [hbl.out, HL.out]; omega) (by rw [hbl.out]; exact R7.out.below hb8) (by rw [HL.out]; exact r8)
        clear r8 R7
        go_wp2_with fail
        refine H8.mono ?_
        clear H8
        rintro e w9 ⟨v1, rfl, o9, hb9⟩
        have hb69 : Below w6.heap.size w6 w9 := hb68.trans (hb9.mono hb68.size)
        have O9 := hide (Rd.of_own o9)
        clear o9 hb9 hb8 hb7 hb68
        have hnp : ¬ nw + 1 = pn := by omega
        have HD : Hid (WrIn w6 (some ⟨w1.heap.size, pn * 3, none⟩) (nw + 1 - pn) (I.drop pn)) := hide (by
          have := HI.out.drop (nw + 1) pn (by omega) (Nat.le_refl _)
          rw [if_neg hnp] at this
          simpa [Addr.add_lit] using this)
        have H10 := toWrites_any (some ⟨w1.heap.size, pn * 3, none⟩) (nw + 1 - pn) (nw + 1 - pn) (I.drop pn) w9 (by omega) (fun e => by cases e) (HD.out.below hb69)
        go_wp2_with fail
        refine H10.mono ?_
        clear H10
        rintro e w10 ⟨vw2, rfl, r10, _, hb10⟩
        have hDl : (I.drop pn).length = nw + 1 - pn := HD.out.1
        have H8 := zzDeciding_any (.slice none 0 0) vw2 [] (I.drop pn) w10 (by rw [hDl]; simp; omega) ⟨rfl, .inl ⟨rfl, rfl⟩⟩ (by rw [hDl]; exact r10)
        clear r10 hDl
        go_wp2_with fail
        refine H8.mono ?_
        clear H8
        rintro e w11 ⟨v2, rfl, o11, hb11⟩
        have O11 := hide (Rd.of_own o11)
        have O9' := hide (O9.out.below (hb10.trans (hb11.mono hb10.size)))
        have hb611 : Below w6.heap.size w6 w11 := hb69.trans ((hb10.trans (hb11.mono hb10.size)).mono hb69.size)
        have HI11 := hide (HI.out.below hb611)
        have hbw11 : Below w.heap.size w w11 := hbw1.trans ((hb6.trans (hb611.mono hb6.size)).mono (Nat.le_of_lt hz1))
        clear o11 hb10 hb11 O9 HI HD hb69 hb6 hb611 k0 k1 k2 HB
        have hEq : Hid (decidingL bl I = decidingL [] (I.drop pn) ∧ I.getD pn wr0 = (t, r, o)) := hide (by
          have hAl : A.length = pn := HA.out.1
          rw [HIe.out]
          constructor
          · rw [forgets bl A C (t, r, o) HR.out, List.drop_left' hAl]
          · rw [List.getD_eq_getElem?_getD, List.getElem?_append_right (by omega), hAl]
            simp)
        clear HA HIe hAC
        go_wp2_with fail
        go_loop [12, 13] (fun la i => ∃ k lr : Nat, pn ≤ k ∧ k ≤ nw + 1 ∧ lr ≤ nw ∧ la = .int .i64 lr ∧ i = .int .i64 k ∧ Hid (repl (I.getD lr wr0) = true) ∧ Hid (∀ j, lr < j → j < k → repl (I.getD j wr0) = false)) (fun _ i => (nw + 1) - (intOf i).toNat)
        case atStart => exact ⟨pn, pn, Nat.le_refl _, by omega, hpw, rfl, rfl, hide (by rw [hEq.out.2]; exact HR.out), hide (fun j h1 h2 => absurd h1 (by omega))⟩
        case round =>
          obtain ⟨k, lr, hk1, hk2, hlr, rfl, rfl, hl1, hl2⟩ := hrel
          by_cases hlt : k < nw + 1
          · obtain ⟨b, off, e, _, _, c2⟩ := HI11.out.2 k hlt
            injection e with e
            injection e with e1 e2
            subst e1 e2
            rw [Nat.zero_add] at c2
            have H14 := isRepl_any (I.getD k wr0) w11
            obtain ⟨x, hx⟩ : ∃ x, x = (I.getD k wr0).2.2 := ⟨_, rfl⟩
            rw [← hx] at c2 H14
            clear hx
            cases hrp : repl (I.getD k wr0) with
            | true =>
              rw [hrp] at H14
              have HRk := hide hrp
              clear hrp
              go_wp2_with (go_at_call 14; refine H14.mono ?_; clear H14; rintro e w' ⟨rfl, rfl⟩)
              go_round
              case rel => exact ⟨k + 1, k, by omega, by omega, by omega, rfl, by go_num, HRk, hide (fun j h1 h2 => absurd h1 (by omega))⟩
              case measure => simp [intOf]; omega
            | false =>
              rw [hrp] at H14
              have HRk := hide hrp
              clear hrp
              go_wp2_with (go_at_call 14; refine H14.mono ?_; clear H14; rintro e w' ⟨rfl, rfl⟩)
              go_round
              case rel =>
                refine ⟨k + 1, lr, by omega, by omega, by omega, rfl, by go_num, hl1, hide (fun j h1 h2 => ?_)⟩
                by_cases e : j = k
                · subst e; exact HRk.out
                · exact hl2.out j h1 (by omega)
              case measure => simp [intOf]; omega
          · obtain rfl : k = nw + 1 := by omega
            obtain ⟨m1, m2, m3, m4⟩ := opens I lr (by rw [HL.out]; omega) hl1.out (fun j h1 h2 => hl2.out j h1 (by rw [HL.out] at h2; exact h2)) bl
            rw [HL.out] at m2
            obtain ⟨b, off, e, c0, c1, _⟩ := HI11.out.2 lr (by omega)
            injection e with e
            injection e with e1 e2
            subst e1 e2
            rw [Nat.zero_add] at c0 c1
            obtain ⟨M, hM⟩ : ∃ M, M = decidingL bl I := ⟨_, rfl⟩
            have O2 : Hid (Rd w11 2 v2 M.length (cells2 M)) := hide (by rw [hM, hEq.out.1]; exact O11.out)
            have O1 : Hid (Rd w11 2 v1 M.length (cells2 M)) := hide (by rw [hM]; exact O9'.out)
            rw [← hM] at m1 m2 m3 m4
            obtain ⟨tl, htl⟩ : ∃ tl, tl = (I.getD lr wr0).1 := ⟨_, rfl⟩
            obtain ⟨R0, hR0⟩ : ∃ R0, R0 = (I.getD lr wr0).2.1 := ⟨_, rfl⟩
            rw [← htl] at c0 m4
            rw [← hR0] at c1 m3
            clear htl hR0 hM hEq O11 O9' hl1 hl2 HI11
            rcases O1.out.formK (f := stC) (fun _ => rfl) st0 with ⟨_, hM0⟩ | ⟨g1, cap1, hv1, _, _, hcM⟩
            · rw [hM0] at m1; simp at m1
            have d0 : w11.cell? ⟨g1, 0, none⟩ = some (.int .i64 (M.getD 0 st0).1) := by simpa using hcM 0 0 _ (by omega) (by omega) rfl
            have d1 : w11.cell? ⟨g1, 1, none⟩ = some (.string R0) := by rw [← m3]; simpa using hcM 0 1 _ (by omega) (by omega) rfl
            obtain ⟨td, htd⟩ : ∃ td, td = (M.getD 0 st0).1 := ⟨_, rfl⟩
            rw [← htd] at d0 m4
            have H15 : Hid (∀ q, Calls Try.prog 15 #[v1, v2] (w11.drewN q) fun e w' => e = .returned (.bool true) ∧ ∃ m, w' = (w11.drewN q).drewN m) := hide (fun q => sameStore_any v1 v2 M (w11.drewN q) (by omega) (by omega) (O1.out.below (drewB _ _ _)) (O2.out.below (drewB _ _ _)))
            rw [hv1] at H15
            rw [hv1]
            clear htd m3 hcM hv1 O1 O2
            generalize M.length = L at *
            have m1' : (1 : Int) ≤ (L : Int) := by omega
            have m2' : (L : Int) ≤ (nw : Int) + 1 - (lr : Int) := by omega
            have hgl0 : (0 : Int) < (L : Int) := by omega
            go_wp2_with fail
            go_quiet ((go_at_call 15; exact Calls.quiet_of (H15.out _)))
            go_wp2_with fail
            go_ret
            exact ⟨rfl, hbw11.trans (drewB _ _ _)⟩
end Go.Proofs.Qxb6617231a

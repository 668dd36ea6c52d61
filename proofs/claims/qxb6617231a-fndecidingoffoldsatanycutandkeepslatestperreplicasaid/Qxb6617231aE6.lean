import Derived.Test.Qxb6617231aE5
import Derived.Test.Qxb6617231aD10
import Derived.Deep.RegionHeld3
import Derived.Deep.DrawnRows
namespace Go.Proofs.Qxb6617231a
open Go.RowKit
attribute [local go_sem ↓] Go.wp_at_zero Go.wp_at_succ

/-- latestPerReplica: what decidingOf reckons -/
theorem latest_any (ab : Option Addr) (nb cb : Nat) (bl : List (Int × ByteArray)) (aw : Option Addr) (nw cw : Nat) (wl : List (Int × ByteArray × Int)) (w : World) (hnb : nb ≤ 4096) (hn : nw ≤ 4096) (hB : StIn w ab nb bl) (hW : WrIn w aw nw wl) :
    Calls Try.prog 11 #[.slice ab nb cb, .slice aw nw cw] w fun e w' => ∃ v', e = .returned v' ∧ w'.ownsRow w.heap.size 53 2 v' (decidingL bl wl).length (cells2 (decidingL bl wl)) ∧ Below w.heap.size w w' := by
  unfold decidingL
  cases hp : lastPart wl with
  | some t =>
    obtain ⟨r, h1, h2, h3, rfl⟩ := lastPart_some wl t hp
    have e : foldS [] (wl.drop r) = newR [] (wl.drop r) := by rw [foldS_latest]; rfl
    show Calls Try.prog 11 #[.slice ab nb cb, .slice aw nw cw] w fun e w' => ∃ v', e = .returned v' ∧ w'.ownsRow w.heap.size 53 2 v' (foldS [] (wl.drop r)).length (cells2 (foldS [] (wl.drop r))) ∧ Below w.heap.size w w'
    rw [e]
    exact latest_last ab nb cb aw nw cw r wl w hn (by rw [← hW.1]; exact h1) (hide hW) (hide h2) (hide (fun j a b => h3 j a (by rw [hW.1]; exact b)))
  | none =>
    show Calls Try.prog 11 #[.slice ab nb cb, .slice aw nw cw] w fun e w' => ∃ v', e = .returned v' ∧ w'.ownsRow w.heap.size 53 2 v' (foldS bl wl).length (cells2 (foldS bl wl)) ∧ Below w.heap.size w w'
    rw [foldS_latest]
    exact latest_none ab nb cb bl aw nw cw wl w hnb hn (hide hB) (hide hW) (hide (fun j h => lastPart_none wl hp j (by rw [hW.1]; exact h)))

set_option maxHeartbeats 1000000 in
theorem folds_walk (ab : Option Addr) (nb cb : Nat) (bl : List (Int × ByteArray)) (aw : Option Addr) (nw cw : Nat) (wl : List (Int × ByteArray × Int)) (p : Int) (w : World)
    (hnb : nb ≤ maxLen) (hcw : nw ≤ cw) (hnw : nw ≤ maxLen) (h0b : Hid (ab = none → nb = 0 ∧ cb = 0)) (h0w : Hid (aw = none → nw = 0 ∧ cw = 0)) (hB : Hid (StIn w ab nb bl)) (hW : Hid (WrIn w aw nw wl)) :
    Calls Try.prog 3 #[.slice ab nb cb, .slice aw nw cw, .int .i64 p] w fun e w' => e = .returned (.bool true) ∧ Below w.heap.size w w' := by
  have H6 := bytesFolds_any ab nb cb bl aw nw cw wl p w hnb hnw hB hW
  go_enter Try.func3, Try.ntmps3
  go_wp2_with fail
  refine H6.mono ?_
  clear H6
  rintro e w1 ⟨bb, rfl, hb1⟩
  have HB := hide (hB.out.below hb1)
  have HW := hide (hW.out.below hb1)
  clear hB hW
  cases bb with
  | false =>
    go_wp2_with fail
    go_ret
    exact ⟨rfl, hb1⟩
  | true =>
    have H7 := tooBig_any ab nb cb bl aw nw cw wl ⟨#[]⟩ w1 hnb hnw HB HW
    go_wp2_with fail
    refine H7.mono ?_
    clear H7
    rintro e w2 ⟨bb, rfl, rfl, hsm⟩
    cases bb with
    | true =>
      clear hsm
      go_wp2_with fail
      go_ret
      exact ⟨rfl, hb1⟩
    | false =>
      obtain ⟨hnb', hnw'⟩ := hsm rfl
      clear hsm
      by_cases hp0 : p < 0
      · go_wp2_with fail
        go_ret
        exact ⟨rfl, hb1⟩
      have hp0' : decide (p < 0) = false := by simpa using hp0
      by_cases hp1 : (nw : Int) < p
      · go_wp2_with fail
        go_ret
        exact ⟨rfl, hb1⟩
      have hp1' : decide ((nw : Int) < p) = false := by simpa using hp1
      obtain ⟨pn, hpn⟩ : ∃ pn : Nat, p = (pn : Int) := ⟨p.toNat, by omega⟩
      subst hpn
      have hpw : pn ≤ nw := by omega
      clear hp0 hp1
      have H9 := toStamps_any ab nb cb bl w1 (by omega) h0b.out HB.out
      go_wp2_with fail
      refine H9.mono ?_
      clear H9
      rintro e w3 ⟨vb, rfl, r3, _, hb3⟩
      have H10 := toWrites_any aw nw cw wl w3 (by omega) h0w.out (HW.out.below hb3)
      have R3 := hide r3
      clear r3
      go_wp2_with fail
      refine H10.mono ?_
      clear H10
      rintro e w4 ⟨vw, rfl, r4, _, hb4⟩
      have hbl := hide HB.out.1
      have hwl := hide HW.out.1
      have H8 := zzDeciding_any vb vw bl wl w4 (by rw [hbl.out, hwl.out]; omega) (by rw [hbl.out]; exact R3.out.below hb4) (by rw [hwl.out]; exact r4)
      clear r4 R3
      go_wp2_with fail
      refine H8.mono ?_
      clear H8
      rintro e w5 ⟨v1, rfl, o5, hb5⟩
      have O5 := hide (Rd.of_own o5)
      have hb15 : Below w1.heap.size w1 w5 := hb3.trans ((hb4.trans (hb5.mono hb4.size)).mono hb3.size)
      clear o5 hb3 hb4 hb5
      -- the second: ws[:k]
      have H9 := hide (toStamps_any ab nb cb bl w5.drew (by omega) h0b.out (HB.out.below hb15.drew))
      obtain ⟨A, hA⟩ : ∃ A, A = wl.take pn := ⟨_, rfl⟩
      obtain ⟨C, hC⟩ : ∃ C, C = wl.drop pn := ⟨_, rfl⟩
      have hAC := hide (show wl = A ++ C by rw [hA, hC, List.take_append_drop])
      have HA : Hid (WrIn w1 aw pn A) := hide (by rw [hA]; exact HW.out.take pn hpw)
      have hi0 : (0 : Int) ≤ (pn : Int) := by omega
      have hi1 : (pn : Int) ≤ (cw : Int) := by omega
      have h0a : Hid (aw = none → pn = 0 ∧ cw = 0) := hide (fun e => by obtain ⟨a, b⟩ := h0w.out e; exact ⟨by omega, b⟩)
      have hsz1 : pn ≤ 65536 := by omega
      have hAl := hide HA.out.1
      have hsz2 : Hid (bl.length + A.length ≤ 32768) := hide (by rw [hbl.out, hAl.out]; omega)
      obtain ⟨ao2, hao2⟩ : ∃ ao2, (if cw = pn then aw else aw.map (fun x => x.add (pn * 3))) = ao2 := ⟨_, rfl⟩
      have HC : Hid (WrIn w1 ao2 (nw - pn) C) := hide (by rw [hC, ← hao2]; exact HW.out.drop cw pn hpw hcw)
      have h02 : Hid (ao2 = none → nw - pn = 0 ∧ cw - pn = 0) := hide (fun e => by
        rw [← hao2] at e
        by_cases hcp : cw = pn
        · omega
        · rw [if_neg hcp] at e
          cases aw with
          | none => obtain ⟨a, b⟩ := h0w.out rfl; omega
          | some ad => cases e)
      have Hao2 := hide hao2
      clear hao2 hA hC
      go_wp2_with fail
      go_region_held3 (fun _ => True) (trivial)
        (first | (go_at_call 9; refine H9.out.mono ?_; clear H9; rintro e w6 ⟨vb2, rfl, r6, _, hb6⟩; have R6 := hide r6; have hb16 : Below w1.heap.size w1 w6 := hb15.drew.trans (hb6.mono hb15.size); have O6 := hide (O5.out.below (w := w5.drew) hb6); clear r6 O5 hb6 hb15) | (go_at_call 10; refine (toWrites_any aw pn cw A w6 hsz1 h0a.out (HA.out.below hb16)).mono ?_; rintro e w7 ⟨vw2, rfl, r7, _, hb7⟩; have R7 := hide r7; have R67 := hide (R6.out.below hb7); have hb17 : Below w1.heap.size w1 w7 := hb16.trans (hb7.mono hb16.size); have O7 := hide (O6.out.below hb7); clear r7 R6 O6 hb7 hb16) | (go_at_call 8; refine (zzDeciding_any vb2 vw2 bl A w7 hsz2.out (hbl.out ▸ R67.out) (hAl.out ▸ R7.out)).mono ?_; rintro e w8 ⟨v2, rfl, o8, hb8⟩; have O8 := hide o8; have hb18 : Below w1.heap.size w1 w8 := hb17.trans (hb8.mono hb17.size); have O78 := hide (O7.out.below hb8); clear o8 R7 R67 O7 hb8 hb17))
      have hao2 := Hao2.out
      have H10 := toWrites_any ao2 (nw - pn) (cw - pn) C w8 (by omega) h02.out (HC.out.below hb18)
      go_wp2_with fail
      refine H10.mono ?_
      clear H10 hao2 Hao2
      rintro e w9 ⟨vw3, rfl, r9, _, hb9⟩
      have hCl : C.length = nw - pn := HC.out.1
      have hDl := decidingL_length bl A
      have H8 := zzDeciding_any v2 vw3 (decidingL bl A) C w9 (by rw [hbl.out, hAl.out] at hDl; omega) ((Rd.of_own O8.out).below hb9) (by rw [hCl]; exact r9)
      rw [decidingL_cut, ← hAC.out] at H8
      clear r9 hCl hDl O8
      go_wp2_with fail
      refine H8.mono ?_
      clear H8
      rintro e w10 ⟨v3, rfl, o10, hb10⟩
      have hb110 : Below w1.heap.size w1 w10 := hb18.trans ((hb9.trans (hb10.mono hb9.size)).mono hb18.size)
      have O1 := hide (O78.out.below (hb9.trans (hb10.mono hb9.size)))
      have O3 := hide (Rd.of_own o10)
      clear o10 O78 hb9 hb10 hb18
      have H11 := latest_any ab nb cb bl aw nw cw wl w10 hnb' hnw' (HB.out.below hb110) (HW.out.below hb110)
      go_wp2_with fail
      refine H11.mono ?_
      clear H11
      rintro e w11 ⟨v4, rfl, o11, hb11⟩
      have hb111 : Below w1.heap.size w1 w11 := hb110.trans (hb11.mono hb110.size)
      have hLl : (decidingL bl wl).length ≤ 65536 := by have := decidingL_length bl wl; rw [hbl.out, hwl.out] at this; omega
      have O4 := hide (Rd.of_own o11)
      have H12 := sameSt_any v1 v4 (decidingL bl wl) w11 hLl (O1.out.below hb11) O4.out
      have O31 := hide (O3.out.below hb11)
      clear o11 O1 O3 hb11 hb110
      go_wp2_with fail
      refine H12.mono ?_
      clear H12
      rintro e w12 ⟨rfl, hb12⟩
      have H12 := sameSt_any v3 v4 (decidingL bl wl) w12 hLl (O31.out.below hb12) (O4.out.below hb12)
      have hb112 : Below w1.heap.size w1 w12 := hb111.trans (hb12.mono hb111.size)
      clear O31 O4 hLl hb12 hb111
      go_wp2_with fail
      refine H12.mono ?_
      clear H12
      rintro e w13 ⟨rfl, hb13⟩
      go_wp2_with fail
      go_ret
      exact ⟨rfl, hb1.trans ((hb112.trans (hb13.mono hb112.size)).mono hb1.size)⟩
end Go.Proofs.Qxb6617231a

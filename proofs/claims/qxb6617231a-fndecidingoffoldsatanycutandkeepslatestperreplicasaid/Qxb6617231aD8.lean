import Derived.Test.Qxb6617231aD7
namespace Go.Proofs.Qxb6617231a
open Go.RowKit

/-- the writes from the last put or delete on, where there is one -/
def lastPart : List (Int × ByteArray × Int) → Option (List (Int × ByteArray × Int))
  | [] => none
  | s :: l => match lastPart l with
    | some t => some t
    | none => if repl s = true then some (s :: l) else none

/-- what decidingOf reckons -/
def decidingL (bl : List (Int × ByteArray)) (wl : List (Int × ByteArray × Int)) : List (Int × ByteArray) :=
  match lastPart wl with
  | some t => foldS [] t
  | none => foldS bl wl

theorem lastPart_none (l : List (Int × ByteArray × Int)) : lastPart l = none → ∀ j, j < l.length → repl (l.getD j wr0) = false := by
  induction l with
  | nil => intro _ j hj; simp at hj
  | cons s l ih =>
    intro h j hj
    rw [lastPart] at h
    cases hl : lastPart l with
    | some t => rw [hl] at h; cases h
    | none =>
      rw [hl] at h
      by_cases hs : repl s = true
      · simp [hs] at h
      · cases j with
        | zero => simpa using hs
        | succ j => simpa using ih hl j (by simpa using hj)

theorem lastPart_some (l t : List (Int × ByteArray × Int)) : lastPart l = some t → ∃ r, r < l.length ∧ repl (l.getD r wr0) = true ∧ (∀ j, r < j → j < l.length → repl (l.getD j wr0) = false) ∧ t = l.drop r := by
  induction l with
  | nil => intro h; cases h
  | cons s l ih =>
    intro h
    rw [lastPart] at h
    cases hl : lastPart l with
    | some t' =>
      rw [hl] at h
      injection h with h
      subst h
      obtain ⟨r, h1, h2, h3, h4⟩ := ih hl
      refine ⟨r + 1, by simpa using h1, by simpa using h2, fun j hj hjl => ?_, by simpa using h4⟩
      cases j with
      | zero => omega
      | succ j => simpa using h3 j (by omega) (by simpa using hjl)
    | none =>
      rw [hl] at h
      by_cases hs : repl s = true
      · simp [hs] at h
        refine ⟨0, by simp, by simpa using hs, fun j hj hjl => ?_, by simpa using h.symm⟩
        cases j with
        | zero => omega
        | succ j => simpa using lastPart_none l hl j (by simpa using hjl)
      · simp [hs] at h

theorem decidingL_length (bl : List (Int × ByteArray)) (wl : List (Int × ByteArray × Int)) : (decidingL bl wl).length ≤ bl.length + wl.length := by
  unfold decidingL
  cases hl : lastPart wl with
  | none => exact foldS_length bl wl
  | some t =>
    obtain ⟨r, h1, _, _, rfl⟩ := lastPart_some wl t hl
    have := foldS_length [] (wl.drop r)
    simp only [List.length_nil, List.length_drop] at this
    show (foldS [] (wl.drop r)).length ≤ _
    omega

set_option maxHeartbeats 400000 in
theorem deciding_nilw (vb : Value) (bl : List (Int × ByteArray)) (w : World) (hn : bl.length ≤ 32768) (hb : Hid (Rd w 2 vb bl.length (cells2 bl))) :
    Calls Try.prog 23 #[vb, .slice none 0 0] w fun e w' => ∃ v', e = .returned v' ∧ w'.ownsRow w.heap.size 38 2 v' bl.length (cells2 bl) ∧ Below w.heap.size w w' := by
  have H30 := clone2_any w.heap.size vb bl w (Nat.le_refl _) (by omega) hb.out
  have H29 := last_nil w
  go_enter Try.func23, Try.ntmps23
  go_wp2_with fail
  refine H29.mono ?_
  clear H29
  rintro e w1 ⟨rfl, rfl⟩
  go_wp2_with fail
  refine H30.mono ?_
  clear H30
  rintro e w2 ⟨v0, rfl, h1, h2⟩
  have H1 := hide h1
  clear h1
  go_wp2_with fail
  refine wp_loop_rounds 1 ?_
  rw [rounds_succ]
  go_wp2_with fail
  go_ret
  exact ⟨_, rfl, H1.out, h2⟩

/-- decidingOf -/
theorem deciding_any (vb vw : Value) (bl : List (Int × ByteArray)) (wl : List (Int × ByteArray × Int)) (w : World) (hn : bl.length + wl.length ≤ 32768) (hb : Rd w 2 vb bl.length (cells2 bl)) (hw : Rd w 11 vw wl.length (cellsS wl)) :
    Calls Try.prog 23 #[vb, vw] w fun e w' => ∃ v', e = .returned v' ∧ w'.ownsRow w.heap.size 38 2 v' (decidingL bl wl).length (cells2 (decidingL bl wl)) ∧ Below w.heap.size w w' := by
  rcases hw.formK (f := swC) (fun _ => rfl) wr0 with ⟨rfl, rfl⟩ | ⟨g, cap, rfl, hg, hcap, hc⟩
  · exact deciding_nilw vb bl w (by omega) (hide hb)
  · have hl : ∀ i, wl.getD i wr0 = ((wl.getD i wr0).1, (wl.getD i wr0).2.1, (wl.getD i wr0).2.2) := fun _ => rfl
    unfold decidingL
    cases hp : lastPart wl with
    | some t =>
      obtain ⟨r, h1, h2, h3, rfl⟩ := lastPart_some wl t hp
      refine deciding_last g wl.length cap r vb (wl.drop r) (fun i => (wl.getD i wr0).1) (fun i => (wl.getD i wr0).2.1) (fun i => (wl.getD i wr0).2.2) w (by omega) hcap h1 (hide (by simp)) (hide (fun i hi => ?_)) (hide hc) h2 h3
      simp [List.getD]
    | none =>
      exact deciding_none g wl.length cap vb bl wl (fun i => (wl.getD i wr0).1) (fun i => (wl.getD i wr0).2.1) (fun i => (wl.getD i wr0).2.2) w hn hcap (hide hb) (hide rfl) (hide (fun _ _ => rfl)) (hide hc) (lastPart_none wl hp)

theorem zzDeciding_any (vb vw : Value) (bl : List (Int × ByteArray)) (wl : List (Int × ByteArray × Int)) (w : World) (hn : bl.length + wl.length ≤ 32768) (hb : Rd w 2 vb bl.length (cells2 bl)) (hw : Rd w 11 vw wl.length (cellsS wl)) :
    Calls Try.prog 8 #[vb, vw] w fun e w' => ∃ v', e = .returned v' ∧ w'.ownsRow w.heap.size 38 2 v' (decidingL bl wl).length (cells2 (decidingL bl wl)) ∧ Below w.heap.size w w' := by
  have H := deciding_any vb vw bl wl w hn hb hw
  clear hb hw
  go_enter Try.func8, Try.ntmps8
  go_wp2_with fail
  refine H.mono ?_
  clear H
  rintro e w' ⟨v', rfl, h⟩
  have H := hide h
  clear h
  go_wp2_with fail
  go_ret
  exact ⟨v', rfl, H.out⟩
end Go.Proofs.Qxb6617231a

import Derived.Test.Qxb6617231aD8
namespace Go.Proofs.Qxb6617231a
open Go.RowKit

set_option maxHeartbeats 1000000 in
theorem sameStore_some (g g' n cap cap' : Nat) (T : Nat → Int) (R : Nat → ByteArray) (w : World) (hn : n ≤ 65536)
    (hc : Hid (∀ i, i < n → w.cell? ⟨g, i * 2, none⟩ = some (.int .i64 (T i)) ∧ w.cell? ⟨g, i * 2 + 1, none⟩ = some (.string (R i))))
    (hc' : Hid (∀ i, i < n → w.cell? ⟨g', i * 2, none⟩ = some (.int .i64 (T i)) ∧ w.cell? ⟨g', i * 2 + 1, none⟩ = some (.string (R i)))) :
    Calls Try.prog 15 #[.slice (some ⟨g, 0, none⟩) n cap, .slice (some ⟨g', 0, none⟩) n cap'] w fun e w' => e = .returned (.bool true) ∧ ∃ q, w' = w.drewN q := by
  go_enter Try.func15, Try.ntmps15
  go_wp2_with fail
  go_loopw [5] (fun i wr => ∃ k q : Nat, k ≤ n ∧ i = .int .i64 k ∧ wr = w.drewN q) (fun i _ => n - (intOf i).toNat)
  case atStart => exact ⟨0, 0, Nat.zero_le _, rfl, rfl⟩
  case round =>
    obtain ⟨k, q, hk, rfl, rfl⟩ := hrel
    by_cases hlt : k < n
    · obtain ⟨e0, e1⟩ := hc.out k hlt
      obtain ⟨e0', e1'⟩ := hc'.out k hlt
      go_wp2_with fail
      go_quiet (fail)
      clear e0 e1 e0' e1'
      go_wp2_with fail
      go_roundw
      case rel => exact ⟨k + 1, q + nq, by omega, by go_num, rfl⟩
      case measure => simp [intOf]; omega
    · go_wp2_with fail
      go_ret
      exact ⟨rfl, q, rfl⟩

/-- sameStoreStamps of two that read alike and hold something -/
theorem sameStore_any (v v' : Value) (l : List (Int × ByteArray)) (w : World) (hn : l.length ≤ 65536) (h0 : 0 < l.length) (h : Rd w 2 v l.length (cells2 l)) (h' : Rd w 2 v' l.length (cells2 l)) :
    Calls Try.prog 15 #[v, v'] w fun e w' => e = .returned (.bool true) ∧ ∃ q, w' = w.drewN q := by
  rcases h.formK (f := stC) (fun _ => rfl) st0 with ⟨_, rfl⟩ | ⟨g, cap, rfl, hg, hcap, hc⟩
  · simp at h0
  · rcases h'.formK (f := stC) (fun _ => rfl) st0 with ⟨_, hl⟩ | ⟨g', cap', rfl, hg', hcap', hc'⟩
    · rw [hl] at h0; simp at h0
    · exact sameStore_some g g' l.length cap cap' (fun i => (l.getD i st0).1) (fun i => (l.getD i st0).2) w hn (hide (fun i hi => ⟨hc i 0 _ hi (by omega) rfl, hc i 1 _ hi (by omega) rfl⟩)) (hide (fun i hi => ⟨hc' i 0 _ hi (by omega) rfl, hc' i 1 _ hi (by omega) rfl⟩))

/-! ### The plain law -/
theorem lastPart_append (a b t : List (Int × ByteArray × Int)) (h : lastPart b = some t) : lastPart (a ++ b) = some t := by
  induction a with
  | nil => exact h
  | cons s a ih => rw [List.cons_append, lastPart, ih]

theorem lastPart_cons (s : Int × ByteArray × Int) (l : List (Int × ByteArray × Int)) (h : repl s = true) : ∃ t, lastPart (s :: l) = some t := by
  rw [lastPart]
  cases lastPart l with
  | some t => exact ⟨t, rfl⟩
  | none => exact ⟨s :: l, by simp [h]⟩

/-- put w into ws at p: what came before is forgotten -/
theorem forgets (bl : List (Int × ByteArray)) (a b : List (Int × ByteArray × Int)) (s : Int × ByteArray × Int) (h : repl s = true) : decidingL bl (a ++ s :: b) = decidingL [] (s :: b) := by
  obtain ⟨t, ht⟩ := lastPart_cons s b h
  unfold decidingL
  rw [lastPart_append a _ t ht, ht]

theorem decideL_head (d : Int × ByteArray) (l : List (Int × ByteArray)) (s : Int × ByteArray) : ∃ d' l', decideL (d :: l) s = d' :: l' ∧ d'.2 = d.2 ∧ d.1 ≤ d'.1 := by
  rw [decideL]
  by_cases h : eqs d.2 s.2 = true
  · rw [if_pos h]
    by_cases h1 : d.1 < s.1
    · rw [if_pos h1]; exact ⟨s, l, rfl, ((eqs_iff _ _).1 h).symm, by omega⟩
    · rw [if_neg h1]; exact ⟨d, l, rfl, rfl, Int.le_refl _⟩
  · rw [if_neg h]; exact ⟨d, _, rfl, rfl, Int.le_refl _⟩

theorem foldS_head (d : Int × ByteArray) (l : List (Int × ByteArray)) (ws : List (Int × ByteArray × Int)) : ∃ d' l', foldS (d :: l) ws = d' :: l' ∧ d'.2 = d.2 ∧ d.1 ≤ d'.1 := by
  induction ws generalizing d l with
  | nil => exact ⟨d, l, rfl, rfl, Int.le_refl _⟩
  | cons s ws ih =>
    obtain ⟨d1, l1, h1, h2, h3⟩ := decideL_head d l (stampOf s)
    obtain ⟨d2, l2, h4, h5, h6⟩ := ih d1 l1
    refine ⟨d2, l2, ?_, by rw [h5, h2], by omega⟩
    have : foldS (d :: l) (s :: ws) = foldS (decideL (d :: l) (stampOf s)) ws := rfl
    rw [this, h1, h4]

/-- the answer opens with the last put or delete's replica, at its time or later; it is no longer than what is left -/
theorem opens (ws : List (Int × ByteArray × Int)) (r : Nat) (h1 : r < ws.length) (h2 : repl (ws.getD r wr0) = true) (h3 : ∀ j, r < j → j < ws.length → repl (ws.getD j wr0) = false) (bl : List (Int × ByteArray)) :
    1 ≤ (decidingL bl ws).length ∧ (decidingL bl ws).length ≤ ws.length - r ∧ ((decidingL bl ws).getD 0 st0).2 = (ws.getD r wr0).2.1 ∧ (ws.getD r wr0).1 ≤ ((decidingL bl ws).getD 0 st0).1 := by
  cases hp : lastPart ws with
  | none =>
    have := lastPart_none ws hp r h1
    rw [h2] at this; cases this
  | some t =>
    obtain ⟨q, a1, a2, a3, rfl⟩ := lastPart_some ws t hp
    have hq : q = r := by
      rcases Nat.lt_trichotomy q r with c | c | c
      · have := a3 r c h1; rw [h2] at this; cases this
      · exact c
      · have := h3 q c a1; rw [this] at a2; cases a2
    subst hq
    have e : decidingL bl ws = foldS [] (ws.drop q) := by unfold decidingL; rw [hp]
    have e2 : ws.drop q = ws.getD q wr0 :: ws.drop (q + 1) := by
      rw [List.drop_eq_getElem_cons a1, List.getD_eq_getElem?_getD, List.getElem?_eq_getElem a1]
      rfl
    have hlen := foldS_length [] (ws.drop q)
    rw [e]
    obtain ⟨d, l, b1, b2, b3⟩ := foldS_head (stampOf (ws.getD q wr0)) [] (ws.drop (q + 1))
    have e3 : foldS [] (ws.drop q) = d :: l := by rw [e2, ← b1]; rfl
    rw [e3] at hlen ⊢
    simp only [List.length_nil, List.length_drop, List.length_cons, Nat.zero_add] at hlen
    exact ⟨by simp, by simpa using hlen, by simpa [stampOf] using b2, by simpa [stampOf] using b3⟩
end Go.Proofs.Qxb6617231a

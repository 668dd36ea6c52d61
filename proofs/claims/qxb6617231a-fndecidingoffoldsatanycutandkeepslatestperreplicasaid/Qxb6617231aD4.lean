import Derived.Test.Qxb6617231aD3
namespace Go.Proofs.Qxb6617231a
open Go.RowKit

theorem cells2_get (l : List (Int × ByteArray)) (i : Nat) (h : i < l.length) : (cells2 l)[i * 2]? = some (.int .i64 (l.getD i st0).1) ∧ (cells2 l)[i * 2 + 1]? = some (.string (l.getD i st0).2) := by
  have a := flat_get stC 2 (fun _ => rfl) st0 l i 0 h (by omega)
  have b := flat_get stC 2 (fun _ => rfl) st0 l i 1 h (by omega)
  exact ⟨a, b⟩

theorem cells2_append (a b : List (Int × ByteArray)) : cells2 (a ++ b) = cells2 a ++ cells2 b := by simp [cells2]

theorem cells2_set (l : List (Int × ByteArray)) (i : Nat) (s : Int × ByteArray) (h : i < l.length) : ((cells2 l).set (i * 2) (.int .i64 s.1)).set (i * 2 + 1) (.string s.2) = cells2 (l.set i s) := by
  induction l generalizing i with
  | nil => simp at h
  | cons d l ih =>
    cases i with
    | zero => simp [cells2, stC]
    | succ i =>
      have := ih i (by simpa using h)
      simp only [cells2, List.flatMap_cons, stC, List.set_cons_succ, List.cons_append, List.nil_append] at this ⊢
      rw [show (i + 1) * 2 = i * 2 + 1 + 1 by omega, List.set_cons_succ, List.set_cons_succ, List.set_cons_succ, List.set_cons_succ, this]

theorem own_set2 {w : World} {B : Nat} {g cap : Nat} {l : List (Int × ByteArray)} (h : w.ownsRow B 38 2 (.slice (some ⟨g, 0, none⟩) l.length cap) l.length (cells2 l)) (i : Nat) (hi : i < l.length) (s : Int × ByteArray) :
    ((w.setCell ⟨g, i * 2, none⟩ (.int .i64 s.1)).setCell ⟨g, i * 2 + 1, none⟩ (.string s.2)).ownsRow B 38 2 (.slice (some ⟨g, 0, none⟩) l.length cap) l.length (cells2 (l.set i s)) ∧
      w.grownBy ((w.setCell ⟨g, i * 2, none⟩ (.int .i64 s.1)).setCell ⟨g, i * 2 + 1, none⟩ (.string s.2)) (some g) := by
  obtain ⟨a1, a2⟩ := h.stored (i * 2) (.int .i64 s.1)
  obtain ⟨b1, b2⟩ := a1.stored (i * 2 + 1) (.string s.2)
  rw [cells2_set l i s hi] at b1
  exact ⟨b1, grownBy_trans a2 b2 (fun _ h _ => h)⟩

theorem drewB (w : World) (q B : Nat) : Below B w (w.drewN q) := by
  induction q with
  | zero => exact Below.refl _ _
  | succ q ih => exact ih.trans (Below.drew (Below.refl _ _))

theorem sc2_oneCell (t : Int) (r : ByteArray) : ∀ u ∈ [Value.int .i64 t, Value.string r], u.oneCell' = true := cells2_oneCell [(t, r)]

set_option maxHeartbeats 1000000 in
/-- decide where the replica is new -/
theorem decide_new (B : Nat) (ao : Option Addr) (n cap : Nat) (T : Nat → Int) (R : Nat → ByteArray) (xs : List Value) (t : Int) (rs : ByteArray) (w : World) (hBw : B ≤ w.heap.size) (hn : n ≤ 65536)
    (hown : Hid (w.ownsRow B 38 2 (.slice ao n cap) n xs)) (_hlt : Hid (∀ g, (Value.slice ao n cap).ownBlock = some g → g < w.heap.size))
    (hc : Hid (∀ i, i < n → ∃ b off, ao = some ⟨b, off, none⟩ ∧ w.cell? ⟨b, off + i * 2, none⟩ = some (.int .i64 (T i)) ∧ w.cell? ⟨b, off + i * 2 + 1, none⟩ = some (.string (R i))))
    (hno : Hid (∀ j, j < n → eqs (R j) rs = false)) :
    Calls Try.prog 31 #[.slice ao n cap, .agg #[.int .i64 t, .string rs]] w fun e w' => ∃ v', e = .returned v' ∧ w'.ownsRow B 38 2 v' (n + 1) (xs ++ [.int .i64 t, .string rs]) ∧ w.grownBy w' (Value.slice ao n cap).ownBlock := by
  obtain ⟨i0, hi, hz0, hz1, hz2⟩ := info_parts Try.info38
  have hb0 : Below w.heap.size w (w.alloc (.cells #[.int .i64 t, .string rs] 38)) := (Below.refl _ w).alloc (Nat.le_refl _) _
  have H36 := index_any ao n cap T R rs w.heap.size (w.alloc (.cells #[.int .i64 t, .string rs] 38)) (by unfold maxLen; omega) (hide (by rw [cell_of_row _ _ _ _ _ _ (heap_alloc_new w _)]; rfl))
    (hide (fun i hi => by obtain ⟨b, off, e, c0, c1⟩ := hc.out i hi; exact ⟨b, off, e, cell_later hb0 c0, cell_later hb0 c1⟩))
  have hz : w.heap.size < (w.alloc (.cells #[.int .i64 t, .string rs] 38)).heap.size := by simp
  have k0 : (w.alloc (.cells #[.int .i64 t, .string rs] 38)).cell? ⟨w.heap.size, 0, none⟩ = some (.int .i64 t) := by rw [cell_of_row _ _ _ _ _ _ (heap_alloc_new w _)]; rfl
  have k1 : (w.alloc (.cells #[.int .i64 t, .string rs] 38)).cell? ⟨w.heap.size, 1, none⟩ = some (.string rs) := by rw [cell_of_row _ _ _ _ _ _ (heap_alloc_new w _)]; rfl
  have HK := hide (And.intro k0 k1)
  clear k0 k1
  go_enter Try.func31, Try.ntmps31
  go_wp2_with fail
  refine H36.mono ?_
  clear H36
  rintro e w1 ⟨z, rfl, hf, hb1⟩
  rcases hf with ⟨i, hin, _, _, hyes⟩ | ⟨rfl, _⟩
  · have := hno.out i hin
    rw [this] at hyes
    cases hyes
  have hbw : Below w.heap.size w w1 := hb0.trans (hb1.mono (by simp))
  have c0 : w1.cell? ⟨w.heap.size, 0, none⟩ = some (.int .i64 t) := cell_later hb1 HK.out.1
  have c1 : w1.cell? ⟨w.heap.size, 1, none⟩ = some (.string rs) := cell_later hb1 HK.out.2
  have hown1 : w1.ownsRow B 38 2 (.slice ao n cap) n xs := hown.out.kept (grownBy_below hbw none) (by cases (Value.slice ao n cap).ownBlock <;> simp)
  clear hb1 HK hz hb0
  have hB1 : B ≤ w1.heap.size := Nat.le_trans hBw hbw.size
  go_wp2_with (at_builtin; go_must (refine wpList_append_keep _ rfl _ _ 26 rfl B 38 i0 _ 2 24 Try.underlying26 hi hz0 hz1 hz2 rfl (by decide) _ _ _ rfl (hown1.alloc _) ⟨w1.heap.size, 0, none⟩ 1 1 [.int .i64 t, .string rs] rfl rfl (by have := news_alloc2 w1 [.int .i64 t, .string rs] 38; simpa using this) (sc2_oneCell t rs) (by unfold maxLen; omega) (by omega) (by simp; omega) ?_))
  intro v' w2 h1 h2 _
  have hg : w.grownBy w2 (Value.slice ao n cap).ownBlock := grownBy_trans (grownBy_below (hbw.alloc hbw.size _) _) h2 (fun i hi _ => hi)
  clear h2 hown1 hi hz0 hz1 hz2 c0 c1
  go_wp2
  go_ret
  exact ⟨v', rfl, h1, hg⟩

set_option maxHeartbeats 1000000 in
/-- decide where the replica is there, at i -/
theorem decide_at (B g : Nat) (n cap i : Nat) (T : Nat → Int) (R : Nat → ByteArray) (xs : List Value) (t : Int) (rs : ByteArray) (w : World) (_hBw : B ≤ w.heap.size) (hn : n ≤ 65536) (hin : i < n) (hg : g < w.heap.size)
    (hown : Hid (w.ownsRow B 38 2 (.slice (some ⟨g, 0, none⟩) n cap) n xs))
    (hc : Hid (∀ i, i < n → w.cell? ⟨g, i * 2, none⟩ = some (.int .i64 (T i)) ∧ w.cell? ⟨g, i * 2 + 1, none⟩ = some (.string (R i))))
    (hno : Hid (∀ j, j < i → eqs (R j) rs = false)) (hyes : Hid (eqs (R i) rs = true)) :
    Calls Try.prog 31 #[.slice (some ⟨g, 0, none⟩) n cap, .agg #[.int .i64 t, .string rs]] w fun e w' => e = .returned (.slice (some ⟨g, 0, none⟩) n cap) ∧
      ∃ w1, Below w.heap.size w w1 ∧ ((T i < t ∧ w' = (w1.setCell ⟨g, i * 2, none⟩ (.int .i64 t)).setCell ⟨g, i * 2 + 1, none⟩ (.string rs)) ∨ (¬ T i < t ∧ w' = w1)) := by
  have hb0 : Below w.heap.size w (w.alloc (.cells #[.int .i64 t, .string rs] 38)) := (Below.refl _ w).alloc (Nat.le_refl _) _
  have H36 := index_any (some ⟨g, 0, none⟩) n cap T R rs w.heap.size (w.alloc (.cells #[.int .i64 t, .string rs] 38)) (by unfold maxLen; omega) (hide (by rw [cell_of_row _ _ _ _ _ _ (heap_alloc_new w _)]; rfl))
    (hide (fun i hi => ⟨g, 0, rfl, by rw [Nat.zero_add]; exact cell_later hb0 (hc.out i hi).1, by rw [Nat.zero_add]; exact cell_later hb0 (hc.out i hi).2⟩))
  have k0 : (w.alloc (.cells #[.int .i64 t, .string rs] 38)).cell? ⟨w.heap.size, 0, none⟩ = some (.int .i64 t) := by rw [cell_of_row _ _ _ _ _ _ (heap_alloc_new w _)]; rfl
  have k1 : (w.alloc (.cells #[.int .i64 t, .string rs] 38)).cell? ⟨w.heap.size, 1, none⟩ = some (.string rs) := by rw [cell_of_row _ _ _ _ _ _ (heap_alloc_new w _)]; rfl
  have HK := hide (And.intro k0 k1)
  clear k0 k1
  go_enter Try.func31, Try.ntmps31
  go_wp2_with fail
  refine H36.mono ?_
  clear H36
  rintro e w1 ⟨z, rfl, hf, hb1⟩
  have hzi : z = (i : Int) := by
    rcases hf with ⟨j, hj, rfl, h1, h2⟩ | ⟨_, h1⟩
    · have : j = i := by
        rcases Nat.lt_trichotomy j i with h | h | h
        · rw [hno.out j h] at h2; cases h2
        · exact h
        · have := h1 i h; rw [hyes.out] at this; cases this
      rw [this]
    · have := h1 i hin; rw [hyes.out] at this; cases this
  clear hf
  subst hzi
  have hbw : Below w.heap.size w w1 := hb0.trans (hb1.mono (by simp))
  have c0 : w1.cell? ⟨w.heap.size, 0, none⟩ = some (.int .i64 t) := cell_later hb1 HK.out.1
  have c1 : w1.cell? ⟨w.heap.size, 1, none⟩ = some (.string rs) := cell_later hb1 HK.out.2
  have e0 : w1.cell? ⟨g, i * 2, none⟩ = some (.int .i64 (T i)) := cell_later hbw (hc.out i hin).1
  have e1 : w1.cell? ⟨g, i * 2 + 1, none⟩ = some (.string (R i)) := cell_later hbw (hc.out i hin).2
  have z0 : ∀ j, w1.frozen? ⟨g, j, none⟩ = false := fun j => (hbw.frozen (p := ⟨g, j, none⟩) hg).trans (hown.out.frozenAt j)
  have hgi : (0 : Int) ≤ (i : Int) := by omega
  clear hb1 HK hb0
  by_cases hT : T i < t
  · go_wp2_with fail
    go_quiet (fail)
    go_wp2_with fail
    go_ret
    exact ⟨rfl, w1.drewN nq, hbw.trans (drewB _ _ _), .inl rfl⟩
  · go_wp2_with fail
    go_quiet (fail)
    go_wp2_with fail
    go_ret
    exact ⟨rfl, w1.drewN nq, hbw.trans (drewB _ _ _), .inr rfl⟩

theorem first_or_none {n : Nat} (p : Nat → Bool) : (∃ i, i < n ∧ (∀ j, j < i → p j = false) ∧ p i = true) ∨ ∀ j, j < n → p j = false := by
  induction n with
  | zero => exact .inr (fun j hj => absurd hj (by omega))
  | succ n ih =>
    rcases ih with ⟨i, hi, h1, h2⟩ | h
    · exact .inl ⟨i, by omega, h1, h2⟩
    · cases hp : p n with
      | true => exact .inl ⟨n, by omega, h, hp⟩
      | false =>
        refine .inr (fun j hj => ?_)
        by_cases e : j = n
        · subst e; exact hp
        · exact h j (by omega)

/-- decide, whatever the stamps: a slice of the call's own, turned in place or grown -/
theorem decide_any (B : Nat) (v : Value) (l : List (Int × ByteArray)) (s : Int × ByteArray) (w : World) (hBw : B ≤ w.heap.size) (hn : l.length ≤ 65536) (hown : w.ownsRow B 38 2 v l.length (cells2 l)) :
    Calls Try.prog 31 #[v, .agg #[.int .i64 s.1, .string s.2]] w fun e w' => ∃ v', e = .returned v' ∧ w'.ownsRow B 38 2 v' (decideL l s).length (cells2 (decideL l s)) ∧ w.grownBy w' v.ownBlock := by
  have hrd := Rd.of_own hown
  rcases first_or_none (n := l.length) (fun i => eqs (l.getD i st0).2 s.2) with ⟨i, hi, h1, h2⟩ | hno
  · rcases hrd.formK (f := stC) (fun _ => rfl) st0 with ⟨_, rfl⟩ | ⟨g, cap, rfl, hg, _, hc⟩
    · simp at hi
    · refine (decide_at B g l.length cap i (fun i => (l.getD i st0).1) (fun i => (l.getD i st0).2) (cells2 l) s.1 s.2 w hBw hn hi hg (hide hown) (hide (fun i hi => ⟨hc i 0 _ hi (by omega) rfl, hc i 1 _ hi (by omega) rfl⟩)) (hide h1) (hide h2)).mono ?_
      rintro e w' ⟨rfl, w1, hb, hw⟩
      have hown1 : w1.ownsRow B 38 2 (.slice (some ⟨g, 0, none⟩) l.length cap) l.length (cells2 l) := hown.kept (grownBy_below hb none) (by simp [Value.ownBlock])
      rw [decideL_at l s i hi h1 h2]
      rcases hw with ⟨hT, rfl⟩ | ⟨hT, rfl⟩
      · rw [if_pos hT]
        obtain ⟨a1, a2⟩ := own_set2 hown1 i hi s
        refine ⟨_, rfl, ?_, grownBy_trans (grownBy_below hb _) a2 (fun _ h _ => h)⟩
        rw [List.length_set]
        exact a1
      · rw [if_neg hT]
        exact ⟨_, rfl, hown1, grownBy_below hb _⟩
  · rw [decideL_new l s hno]
    have fin : ∀ ao cap, v = .slice ao l.length cap → (∀ i, i < l.length → ∃ b off, ao = some ⟨b, off, none⟩ ∧ w.cell? ⟨b, off + i * 2, none⟩ = some (.int .i64 (l.getD i st0).1) ∧ w.cell? ⟨b, off + i * 2 + 1, none⟩ = some (.string (l.getD i st0).2)) →
        Calls Try.prog 31 #[v, .agg #[.int .i64 s.1, .string s.2]] w fun e w' => ∃ v', e = .returned v' ∧ w'.ownsRow B 38 2 v' (l ++ [s]).length (cells2 (l ++ [s])) ∧ w.grownBy w' v.ownBlock := by
      rintro ao cap rfl hc
      refine (decide_new B ao l.length cap (fun i => (l.getD i st0).1) (fun i => (l.getD i st0).2) (cells2 l) s.1 s.2 w hBw hn (hide hown) (hide (fun g hg => (hown.lt g hg).2)) (hide hc) (hide hno)).mono ?_
      rintro e w' ⟨v', rfl, h1, h2⟩
      refine ⟨v', rfl, ?_, h2⟩
      rw [cells2_append, List.length_append]
      exact h1
    rcases hrd.formK (f := stC) (fun _ => rfl) st0 with ⟨rfl, rfl⟩ | ⟨g, cap, rfl, hg, _, hc⟩
    · exact fin none 0 rfl (fun i hi => by simp at hi)
    · exact fin (some ⟨g, 0, none⟩) cap rfl (fun i hi => ⟨g, 0, rfl, by rw [Nat.zero_add]; exact hc i 0 _ hi (by omega) rfl, by rw [Nat.zero_add]; exact hc i 1 _ hi (by omega) rfl⟩)
end Go.Proofs.Qxb6617231a

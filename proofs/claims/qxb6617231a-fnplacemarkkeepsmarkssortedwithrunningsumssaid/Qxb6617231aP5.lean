import Derived.Test.Qxb6617231aP4
namespace Go.Proofs.Qxb6617231a
open Go.RowKit

/-- the marks behind the new one, raised -/
def raise (s : Int) (m : Int × Int × Int) : Int × Int × Int := (m.1, m.2.1, wrap64 (m.2.2 + s))

/-- what placeMark makes of the marks, the new one at r -/
def placed (ms : List (Int × Int × Int)) (r : Nat) (t o s : Int) : List (Int × Int × Int) :=
  (ms.take r ++ [(t, o, upNext (ms.take r) s)]) ++ (ms.drop r).map (raise s)

theorem placeMark_nil (B : Nat) (t o s : Int) (w : World) (hB : B ≤ w.heap.size) :
    Calls Try.prog 28 #[.slice none 0 0, .int .i64 t, .int .i64 o, .int .i64 s] w fun e w' => ∃ v', e = .returned v' ∧ w'.ownsRow B 51 3 v' 1 (cells3 [(t, o, s)]) ∧ Below w.heap.size w w' := by
  go_enter Try.func28, Try.ntmps28
  go_wp2_with (first | (go_at_call 32; refine (laterThan_none _ _).mono ?_; rintro e w' ⟨rfl, rfl⟩) | (go_at_call 33; refine (appendMark_nil B _ _ _ _ hB).mono ?_; rintro e w' ⟨v', rfl, h1, h2⟩))
  go_ret
  exact ⟨_, rfl, by assumption, by assumption⟩

/-- the loop of placeMark: so far -/
def grow3 (pre ms : List (Int × Int × Int)) (r : Nat) (s : Int) (k : Nat) : List (Int × Int × Int) := pre ++ ((ms.drop r).take k).map (raise s)

theorem grow3_succ (pre ms : List (Int × Int × Int)) (r : Nat) (s : Int) (k : Nat) (h : r + k < ms.length) :
    grow3 pre ms r s (k + 1) = grow3 pre ms r s k ++ [((ms.getD (r + k) (0, 0, 0)).1, (ms.getD (r + k) (0, 0, 0)).2.1, wrap64 ((ms.getD (r + k) (0, 0, 0)).2.2 + s))] := by
  unfold grow3
  rw [List.take_succ_eq_append_getElem (by simp; omega), List.map_append, List.append_assoc]
  simp [raise, List.getD, h]

set_option maxHeartbeats 400000 in
theorem placeMark_some (B g n cap : Nat) (ms : List (Int × Int × Int)) (T O U : Nat → Int) (hN : Hid (ms.length = n)) (hT : Hid (∀ i, ms.getD i (0, 0, 0) = (T i, O i, U i))) (t o s : Int) (w : World) (hB : B ≤ w.heap.size) (hn : n ≤ 4096) (hg : g < w.heap.size) (hcap : n ≤ cap)
    (hown : w.ownsRow B 51 3 (.slice (some ⟨g, 0, none⟩) n cap) n (cells3 ms))
    (hc : ∀ i, i < n → w.cell? ⟨g, i * 3, none⟩ = some (.int .i64 (T i)) ∧ w.cell? ⟨g, i * 3 + 1, none⟩ = some (.int .i64 (O i)) ∧ w.cell? ⟨g, i * 3 + 2, none⟩ = some (.int .i64 (U i)))
    (hm : ∀ i j, i ≤ j → j < n → T i ≤ T j) :
    Calls Try.prog 28 #[.slice (some ⟨g, 0, none⟩) n cap, .int .i64 t, .int .i64 o, .int .i64 s] w fun e w' => ∃ v' r, e = .returned v' ∧ r ≤ n ∧ (∀ i, i < r → T i ≤ t) ∧ (∀ i, r ≤ i → i < n → t < T i) ∧
      w'.ownsRow B 51 3 v' (n + 1) (cells3 (placed ms r t o s)) ∧ w.grownBy w' (some g) ∧ Rd w' 3 (.slice (some ⟨g, 0, none⟩) n cap) n (cells3 ms) := by
  have H32 := laterThan_some g 0 n cap T O U t w hn hg (by simpa using hc) hm
  have HO := hide hown
  have HC := hide hc
  have HM := hide hm
  clear hown hc hm
  go_enter Try.func28, Try.ntmps28
  go_wp2_with fail
  refine H32.mono ?_
  clear H32
  rintro e w1 ⟨r, hr, h1, h2, rfl, hbl⟩
  have H1 := hide h1
  have H2 := hide h2
  clear h1 h2
  have hB1 : B ≤ w1.heap.size := Nat.le_trans hB hbl.size
  by_cases hrn : r = n
  · subst hrn
    have hown1 : w1.ownsRow B 51 3 (.slice (some ⟨g, 0, none⟩) r cap) r (cells3 ms) := HO.out.kept (grownBy_below hbl none) (by simp [Value.ownBlock])
    have H33 := appendMark_any B ms (.slice (some ⟨g, 0, none⟩) r cap) t o s w1 hB1 (by rw [hN.out]; exact hn) (by rw [hN.out]; exact hown1)
    rw [hN.out] at H33
    clear hown1
    go_wp2_with fail
    refine H33.mono ?_
    clear H33
    rintro e w2 ⟨v', rfl, h3, h4, h5⟩
    have H3 := hide h3
    have H5 := hide h5
    clear h3 h5
    go_wp2_with fail
    go_ret
    refine ⟨v', r, rfl, Nat.le_refl _, H1.out, H2.out, ?_, grownBy_trans (grownBy_below hbl _) h4 (fun i hi _ => hi), H5.out⟩
    have e1 : placed ms r t o s = ms ++ [(t, o, upNext ms s)] := by
      unfold placed
      rw [List.take_of_length_le (Nat.le_of_eq hN.out), List.drop_of_length_le (Nat.le_of_eq hN.out)]
      simp
    rw [e1]
    exact H3.out
  · have hcr : ¬ cap = r := by omega
    have hb1 : ((r : Int) == (n : Int)) = false := by simp; omega
    go_wp2_with fail
    have hlen : (ms.take r).length = r := by rw [List.length_take, hN.out]; omega
    have hcl : (cells3 (ms.take r)).length = r * 3 := by rw [cells3_length, hlen]
    have H34 := clone_some w.heap.size g r cap (cells3 (ms.take r)) w1 hbl.size (by omega) hcl (cells3_oneCell _) (Nat.lt_of_lt_of_le hg hbl.size) (by
      intro j u hu
      have hj := (List.getElem?_eq_some_iff.1 hu).1
      have e1 : cells3 ms = cells3 (ms.take r) ++ cells3 (ms.drop r) := by rw [← cells3_append, List.take_append_drop]
      have e2 : (cells3 ms)[j]? = some u := by rw [e1, List.getElem?_append_left hj]; exact hu
      have := HO.out.cells (g := g) rfl j u e2
      rw [add0] at this
      exact (hbl.cell (by exact hg)).trans this)
    refine H34.mono ?_
    clear H34
    rintro e w2 ⟨v1, rfl, h3, h4, h5⟩
    have hb2 : Below w.heap.size w w2 := hbl.trans (h5.mono hbl.size)
    have H33 := appendMark_any w.heap.size (ms.take r) v1 t o s w2 hb2.size (by omega) (by rw [hlen]; exact h3)
    rw [hlen] at H33
    have H4 := hide fun k hk => (h3.lt k hk).1
    clear h3 h4 hlen hcl h5
    go_wp2_with fail
    refine H33.mono ?_
    clear H33
    rintro e w3 ⟨v2, rfl, h6, h7, _⟩
    have hb3 : Below w.heap.size w w3 := hb2.grown h7 hb2.size H4.out
    obtain ⟨pre, hpre⟩ : ∃ pre, pre = ms.take r ++ [(t, o, upNext (ms.take r) s)] := ⟨_, rfl⟩
    rw [← hpre] at h6
    have HP := hide hpre
    have H6 : Hid (w3.ownsRow w.heap.size 51 3 v2 (r + 1 + 0) (cells3 (grow3 pre ms r s 0))) := hide (by unfold grow3; simpa using h6)
    clear hpre h6 h7 hbl H4 hb2
    obtain ⟨i0, hi, hz0, hz1, hz2⟩ := info_parts Try.info51
    go_wp2_with fail
    go_loopw [10, 37] (fun v i wr => ∃ k : Nat, k ≤ n - r ∧ i = .int .i64 k ∧ wr.ownsRow w.heap.size 51 3 v (r + 1 + k) (cells3 (grow3 pre ms r s k)) ∧ Below w.heap.size w wr)
      (fun _ i _ => (n - r) - (intOf i).toNat)
    case atStart => exact ⟨0, Nat.zero_le _, rfl, H6.out, hb3⟩
    case round =>
      obtain ⟨k, hk, rfl, hown, hbk⟩ := hrel
      clear H6 hb3
      by_cases hlt : k < n - r
      · have e0 : wr.cell? ⟨g, r * 3 + k * 3, none⟩ = some (.int .i64 (T (r + k))) := (hbk.cell (by exact hg)).trans (by rw [← Nat.add_mul]; exact (HC.out (r + k) (by omega)).1)
        have e1 : wr.cell? ⟨g, r * 3 + k * 3 + 1, none⟩ = some (.int .i64 (O (r + k))) := (hbk.cell (by exact hg)).trans (by rw [← Nat.add_mul]; exact (HC.out (r + k) (by omega)).2.1)
        have e2 : wr.cell? ⟨g, r * 3 + k * 3 + 2, none⟩ = some (.int .i64 (U (r + k))) := (hbk.cell (by exact hg)).trans (by rw [← Nat.add_mul]; exact (HC.out (r + k) (by omega)).2.2)
        have hbk1 := hbk.size
        go_wp2_with (at_builtin; go_must (refine wpList_append_keep _ rfl _ _ 42 rfl w.heap.size 51 i0 _ 3 24 Try.underlying42 hi hz0 hz1 hz2 rfl (by decide) _ _ _ rfl ((hown.alloc _).alloc _) ⟨wr.heap.size + 1, 0, none⟩ 1 1 [.int .i64 (T (r + k)), .int .i64 (O (r + k)), .int .i64 (wrap64 (U (r + k) + s))] rfl rfl (by have := news_alloc (wr.alloc (.cells #[.int .i64 (T (r + k)), .int .i64 (O (r + k)), .int .i64 (U (r + k))] 51)) [.int .i64 (T (r + k)), .int .i64 (O (r + k)), .int .i64 (wrap64 (U (r + k) + s))] 51; simpa using this) (ints3_oneCell _ _ _) (by unfold maxLen; omega) (by omega) (by simp; omega) ?_))
        intro v' w4 h8 h9 _
        have hb4 : Below w.heap.size w w4 := ((hbk.alloc hbk.size _).alloc (by simp; omega) _).grown h9 (by simp; omega) (fun j hj => (hown.lt j hj).1)
        have H8 : Hid (w4.ownsRow w.heap.size 51 3 v' (r + 1 + (k + 1)) (cells3 (grow3 pre ms r s (k + 1)))) := hide (by
          rw [grow3_succ pre ms r s k (by rw [hN.out]; omega), cells3_append, hT.out (r + k)]
          exact h8)
        clear h8 h9 hown hi hz0 hz1 hz2 e0 e1 e2
        go_wp2_with fail
        go_roundw
        case rel => exact ⟨k + 1, by omega, by go_num, H8.out, hb4⟩
        case measure => simp [intOf]; omega
      · obtain rfl : k = n - r := by omega
        have HW := hide hown
        clear hown
        go_wp2_with fail
        go_ret
        have e1 : placed ms r t o s = grow3 pre ms r s (n - r) := by
          unfold placed grow3
          rw [HP.out, List.take_of_length_le (l := ms.drop r) (by rw [List.length_drop, hN.out]; exact Nat.le_refl _)]
        refine ⟨_, r, rfl, hr, H1.out, H2.out, ?_, grownBy_below hbk _, (Rd.of_own HO.out).below hbk⟩
        rw [e1]
        have := ownsRow_base HW.out hB
        rwa [show r + 1 + (n - r) = n + 1 by omega] at this

/-- placeMark, whatever the marks are (their times in order): the new one stands behind the last that is not later; the marks handed in read as before. -/
theorem placeMark_any (B : Nat) (ms : List (Int × Int × Int)) (v : Value) (t o s : Int) (w : World) (hB : B ≤ w.heap.size) (hn : ms.length ≤ 4096) (hown : w.ownsRow B 51 3 v ms.length (cells3 ms))
    (hm : ∀ i j, i ≤ j → j < ms.length → (ms.getD i (0, 0, 0)).1 ≤ (ms.getD j (0, 0, 0)).1) :
    Calls Try.prog 28 #[v, .int .i64 t, .int .i64 o, .int .i64 s] w fun e w' => ∃ v' r, e = .returned v' ∧ r ≤ ms.length ∧ (∀ i, i < r → (ms.getD i (0, 0, 0)).1 ≤ t) ∧ (∀ i, r ≤ i → i < ms.length → t < (ms.getD i (0, 0, 0)).1) ∧
      w'.ownsRow B 51 3 v' (ms.length + 1) (cells3 (placed ms r t o s)) ∧ w.grownBy w' v.ownBlock ∧ Rd w' 3 v ms.length (cells3 ms) := by
  have hrd := Rd.of_own hown
  rcases hrd.form3 with ⟨rfl, rfl⟩ | ⟨g, cap, rfl, hg, hcap, hc⟩
  · refine (placeMark_nil B t o s w hB).mono ?_
    rintro e w' ⟨v', rfl, h1, h2⟩
    exact ⟨v', 0, rfl, Nat.le_refl _, by simp, by simp, h1, grownBy_below h2 _, hrd.below h2⟩
  · refine (placeMark_some B g ms.length cap ms (fun i => (ms.getD i (0, 0, 0)).1) (fun i => (ms.getD i (0, 0, 0)).2.1) (fun i => (ms.getD i (0, 0, 0)).2.2) (hide rfl) (hide fun _ => rfl) t o s w hB hn hg hcap hown hc hm).mono ?_
    rintro e w' ⟨v', r, rfl, h⟩
    exact ⟨v', r, rfl, h⟩

theorem zzPlaceMark_any (B : Nat) (ms : List (Int × Int × Int)) (v : Value) (t o s : Int) (w : World) (hB : B ≤ w.heap.size) (hn : ms.length ≤ 4096) (hown : w.ownsRow B 51 3 v ms.length (cells3 ms))
    (hm : ∀ i j, i ≤ j → j < ms.length → (ms.getD i (0, 0, 0)).1 ≤ (ms.getD j (0, 0, 0)).1) :
    Calls Try.prog 18 #[v, .int .i64 t, .int .i64 o, .int .i64 s] w fun e w' => ∃ v' r, e = .returned v' ∧ r ≤ ms.length ∧ (∀ i, i < r → (ms.getD i (0, 0, 0)).1 ≤ t) ∧ (∀ i, r ≤ i → i < ms.length → t < (ms.getD i (0, 0, 0)).1) ∧
      w'.ownsRow B 51 3 v' (ms.length + 1) (cells3 (placed ms r t o s)) ∧ w.grownBy w' v.ownBlock ∧ Rd w' 3 v ms.length (cells3 ms) := by
  have H := placeMark_any B ms v t o s w hB hn hown hm
  clear hown hm
  go_enter Try.func18, Try.ntmps18
  go_wp2_with fail
  refine H.mono ?_
  clear H
  rintro e w' ⟨v', r, rfl, h⟩
  have H := hide h
  clear h
  go_wp2_with fail
  go_ret
  exact ⟨v', r, rfl, H.out⟩
end Go.Proofs.Qxb6617231a

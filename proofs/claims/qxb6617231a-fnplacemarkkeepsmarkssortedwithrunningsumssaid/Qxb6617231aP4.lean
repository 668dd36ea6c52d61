import Derived.Test.Qxb6617231aP3
namespace Go.Proofs.Qxb6617231a
open Go.RowKit

/-- what appendMark puts into 'upto' -/
def upNext (ms : List (Int × Int × Int)) (s : Int) : Int := if ms.length = 0 then s else wrap64 (s + (ms.getD (ms.length - 1) (0, 0, 0)).2.2)

theorem appendMark_any (B : Nat) (ms : List (Int × Int × Int)) (v : Value) (t o s : Int) (w : World) (hB : B ≤ w.heap.size) (hn : ms.length ≤ 4096) (hown : w.ownsRow B 51 3 v ms.length (cells3 ms)) :
    Calls Try.prog 33 #[v, .int .i64 t, .int .i64 o, .int .i64 s] w fun e w' => ∃ v', e = .returned v' ∧ w'.ownsRow B 51 3 v' (ms.length + 1) (cells3 (ms ++ [(t, o, upNext ms s)])) ∧ w.grownBy w' v.ownBlock ∧ Rd w' 3 v ms.length (cells3 ms) := by
  have hrd := Rd.of_own hown
  rcases hrd.form3 with ⟨rfl, rfl⟩ | ⟨g, cap, rfl, hg, hcap, hc⟩
  · refine (appendMark_nil B t o s w hB).mono ?_
    rintro e w' ⟨v', rfl, h1, h2⟩
    exact ⟨v', rfl, h1, grownBy_below h2 _, hrd.below h2⟩
  · by_cases h0 : ms.length = 0
    · have hms : ms = [] := List.eq_nil_of_length_eq_zero h0
      subst hms
      refine (appendMark_0 B g cap t o s w hB hown).mono ?_
      rintro e w' ⟨v', rfl, h1, h2⟩
      exact ⟨v', rfl, h1, h2, rfl, .inr ⟨g, cap, rfl, Nat.lt_of_lt_of_le hg h2.size, hcap, fun j u hu => by simp [cells3] at hu⟩⟩
    · refine (appendMark_some B g ms.length cap (cells3 ms) _ t o s w hB (by omega) hn hown (hc (ms.length - 1) (by omega)).2.2).mono ?_
      rintro e w' ⟨v', rfl, h1, h2, h3⟩
      refine ⟨v', rfl, ?_, h2, h3⟩
      rw [cells3_append]
      unfold upNext
      rw [if_neg h0]
      exact h1

set_option maxHeartbeats 400000 in
theorem search_none (x : Int) (w : World) :
    Calls Try.prog 38 #[.slice none 0 0, .int .i64 x, .func (.func 39) #[] #[]] w fun e w' => e = .returned (.tuple #[.int .i64 0, .bool false]) ∧ w' = w := by
  go_enter Try.func38, Try.ntmps38
  go_wp2
  refine wp_loop_rounds 1 ?_
  rw [rounds_succ]
  go_wp2
  go_ret2
  exact ⟨rfl, rfl⟩

set_option maxHeartbeats 400000 in
theorem laterThan_none (x : Int) (w : World) :
    Calls Try.prog 32 #[.slice none 0 0, .int .i64 x] w fun e w' => e = .returned (.int .i64 0) ∧ w' = w := by
  go_enter Try.func32, Try.ntmps32
  go_wp2_with (go_at_call 38; refine (search_none _ _).mono ?_; rintro e w' ⟨rfl, rfl⟩)
  go_ret
  exact ⟨rfl, rfl⟩

set_option maxHeartbeats 400000 in
theorem laterThan_some (b off n cap : Nat) (T O U : Nat → Int) (x : Int) (w : World) (hn : n ≤ 4096) (hb : b < w.heap.size)
    (hc : ∀ i, i < n → w.cell? ⟨b, off + i * 3, none⟩ = some (.int .i64 (T i)) ∧ w.cell? ⟨b, off + i * 3 + 1, none⟩ = some (.int .i64 (O i)) ∧ w.cell? ⟨b, off + i * 3 + 2, none⟩ = some (.int .i64 (U i)))
    (hm : ∀ i j, i ≤ j → j < n → T i ≤ T j) :
    Calls Try.prog 32 #[.slice (some ⟨b, off, none⟩) n cap, .int .i64 x] w fun e w' => ∃ r : Nat, r ≤ n ∧ (∀ i, i < r → T i ≤ x) ∧ (∀ i, r ≤ i → i < n → x < T i) ∧ e = .returned (.int .i64 r) ∧ Below w.heap.size w w' := by
  have H := search_any b off n cap T O U x w hn hb hc hm
  clear hc hm
  go_enter Try.func32, Try.ntmps32
  go_wp2_with (go_at_call 38; refine H.mono ?_; clear H; rintro e w' ⟨r, hr, h1, h2, rfl, hbl⟩; have H1 : Hid _ := h1; have H2 : Hid _ := h2; clear h1 h2)
  go_ret
  exact ⟨_, by assumption, Hid.out (by assumption), Hid.out (by assumption), rfl, by assumption⟩

set_option maxHeartbeats 400000 in
theorem clone_some (B g r cap : Nat) (xs : List Value) (w : World) (hB : B ≤ w.heap.size) (hr : r ≤ 4096) (hl : xs.length = r * 3) (h1 : ∀ u ∈ xs, u.oneCell' = true) (hg : g < w.heap.size)
    (hc : ∀ j u, xs[j]? = some u → w.cell? ⟨g, j, none⟩ = some u) :
    Calls Try.prog 34 #[.slice (some ⟨g, 0, none⟩) r cap] w fun e w' => ∃ v', e = .returned v' ∧ w'.ownsRow B 51 3 v' r xs ∧ (∀ k, v'.ownBlock = some k → w.heap.size ≤ k) ∧ Below w.heap.size w w' := by
  obtain ⟨i0, hi, hz0, hz1, hz2⟩ := info_parts Try.info51
  have hnil := fun w a n c => Lib.run_eql_slice_nil (P := Try.prog) w 42 51 a n c 0 0 Try.underlying42
  have hown : Hid ((w.alloc (.cells #[] 51)).ownsRow w.heap.size 51 3 (.slice (some ⟨w.heap.size, 0, none⟩) 0 0) 0 []) := World.ownsRow_made w #[] 0 (Nat.le_refl _) (by decide) rfl
  have HC : Hid (∀ j u, xs[j]? = some u → (w.alloc (.cells #[] 51)).cell? ((⟨g, 0, none⟩ : Addr).add j) = some u) := fun j u hu => by
    rw [add0, World.cell?_alloc_lt _ _ _ (by exact hg)]
    exact hc j u hu
  have H1 : Hid _ := h1
  have HL : Hid _ := hl
  clear hc h1 hl
  go_enter Try.func34, Try.ntmps34
  go_wp2_with (at_builtin; go_must (refine wpList_append_keep _ rfl _ _ 42 rfl w.heap.size 51 i0 _ 3 24 Try.underlying42 hi hz0 hz1 hz2 rfl (by decide) _ _ _ rfl hown.out ⟨g, 0, none⟩ r cap xs rfl HL.out HC.out H1.out (by unfold maxLen; omega) (by omega) (by simp) ?_))
  intro v' w1 h1 h2 _
  have hb : Below w.heap.size w w1 := ((Below.refl _ w).alloc (Nat.le_refl _) _).grown h2 (by simp) (by simp [Value.ownBlock])
  have hk : Hid (∀ k, v'.ownBlock = some k → w.heap.size ≤ k) := fun k hk => (h1.lt k hk).1
  have h1' : Hid (w1.ownsRow B 51 3 v' r xs) := hide (ownsRow_base h1 hB)
  clear h1 h2 hown hi hz0 hz1 hz2 hnil
  go_wp2
  go_ret
  exact ⟨v', rfl, h1'.out, hk.out, hb⟩
end Go.Proofs.Qxb6617231a

import Derived.Test.Qxb6617231aP1
namespace Go.Proofs.Qxb6617231a
open Go.RowKit

set_option maxHeartbeats 400000 in
theorem search_any (b off n cap : Nat) (T O U : Nat → Int) (x : Int) (w : World) (hn : n ≤ 4096) (hb : b < w.heap.size)
    (hc : ∀ i, i < n → w.cell? ⟨b, off + i * 3, none⟩ = some (.int .i64 (T i)) ∧ w.cell? ⟨b, off + i * 3 + 1, none⟩ = some (.int .i64 (O i)) ∧ w.cell? ⟨b, off + i * 3 + 2, none⟩ = some (.int .i64 (U i)))
    (hm : ∀ i j, i ≤ j → j < n → T i ≤ T j) :
    Calls Try.prog 38 #[.slice (some ⟨b, off, none⟩) n cap, .int .i64 x, .func (.func 39) #[] #[]] w fun e w' => ∃ r : Nat, r ≤ n ∧ (∀ i, i < r → T i ≤ x) ∧ (∀ i, r ≤ i → i < n → x < T i) ∧ e = .returned (.tuple #[.int .i64 r, .bool false]) ∧ Below w.heap.size w w' := by
  have HM : Hid _ := hm
  have HC : Hid _ := hc
  clear hm hc
  go_enter Try.func38, Try.ntmps38
  go_wp2
  go_loopw [9, 10] (fun i j wr => ∃ a c : Nat, a ≤ c ∧ c ≤ n ∧ i = .int .i64 a ∧ j = .int .i64 c ∧ (∀ i, i < a → T i ≤ x) ∧ (∀ i, c ≤ i → i < n → x < T i) ∧ Below w.heap.size w wr)
    (fun i j _ => (intOf j).toNat - (intOf i).toNat)
  case atStart => exact ⟨0, n, by omega, by omega, rfl, rfl, by omega, by omega, Below.refl _ _⟩
  case round =>
    obtain ⟨a, c, hac, hcn, rfl, rfl, h1, h2, hbl⟩ := hrel
    by_cases hlt : a < c
    · have hmid : (a + c) / 2 < n := by omega
      obtain ⟨g0, g1, g2⟩ := HC.out ((a + c) / 2) hmid
      have e0 : wr.cell? ⟨b, off + (a + c) / 2 * 3, none⟩ = some (.int .i64 (T ((a + c) / 2))) := (hbl.cell (by exact hb)).trans g0
      have e1 : wr.cell? ⟨b, off + (a + c) / 2 * 3 + 1, none⟩ = some (.int .i64 (O ((a + c) / 2))) := (hbl.cell (by exact hb)).trans g1
      have e2 : wr.cell? ⟨b, off + (a + c) / 2 * 3 + 2, none⟩ = some (.int .i64 (U ((a + c) / 2))) := (hbl.cell (by exact hb)).trans g2
      clear g0 g1 g2
      have H1 : Hid _ := h1
      have H2 : Hid _ := h2
      clear h1 h2
      by_cases hT : T ((a + c) / 2) ≤ x
      · go_wp2_with (go_at_call 39; refine (cmp_low _ _ _ _ hT _).mono ?_; rintro e w' ⟨rfl, rfl⟩)
        go_roundw
        case rel =>
          refine ⟨(a + c) / 2 + 1, c, by omega, hcn, by go_num, rfl, fun i hi => ?_, H2.out, hbl.alloc hbl.size _⟩
          exact Int.le_trans (HM.out i ((a + c) / 2) (by omega) hmid) hT
        case measure => simp [intOf]; omega
      · go_wp2_with (go_at_call 39; refine (cmp_high _ _ _ _ (by omega) _).mono ?_; rintro e w' ⟨rfl, rfl⟩)
        go_roundw
        case rel =>
          refine ⟨a, (a + c) / 2, by omega, by omega, rfl, by go_num, H1.out, fun i hi hin => ?_, hbl.alloc hbl.size _⟩
          exact Int.lt_of_lt_of_le (by omega) (HM.out ((a + c) / 2) i (by omega) hin)
        case measure => simp [intOf]; omega
    · obtain rfl : a = c := by omega
      by_cases han : a < n
      · obtain ⟨g0, g1, g2⟩ := HC.out a han
        have e0 : wr.cell? ⟨b, off + a * 3, none⟩ = some (.int .i64 (T a)) := (hbl.cell (by exact hb)).trans g0
        have e1 : wr.cell? ⟨b, off + a * 3 + 1, none⟩ = some (.int .i64 (O a)) := (hbl.cell (by exact hb)).trans g1
        have e2 : wr.cell? ⟨b, off + a * 3 + 2, none⟩ = some (.int .i64 (U a)) := (hbl.cell (by exact hb)).trans g2
        clear g0 g1 g2
        have hx := h2 a (Nat.le_refl _) han
        have H1 : Hid _ := h1
        have H2 : Hid _ := h2
        clear h1 h2
        go_wp2_with (go_at_call 39; refine (cmp_high _ _ _ _ hx _).mono ?_; rintro e w' ⟨rfl, rfl⟩)
        go_ret2
        exact ⟨a, by omega, H1.out, H2.out, rfl, hbl.alloc hbl.size _⟩
      · have H1 : Hid _ := h1
        have H2 : Hid _ := h2
        clear h1 h2
        go_wp2_with fail
        go_ret2
        exact ⟨a, by omega, H1.out, H2.out, rfl, hbl⟩
end Go.Proofs.Qxb6617231a

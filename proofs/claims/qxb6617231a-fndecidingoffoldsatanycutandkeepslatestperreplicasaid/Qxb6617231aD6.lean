import Derived.Test.Qxb6617231aD5
namespace Go.Proofs.Qxb6617231a
open Go.RowKit

set_option maxHeartbeats 400000 in
theorem replaces_lit (t : Int) (r : ByteArray) (o : Int) (w : World) :
    Calls Try.prog 35 #[.agg #[.int .i64 t, .string r, .int .u8 o, .string ⟨#[]⟩, .string ⟨#[]⟩, .int .i64 0, .pointer none, .int .i64 0, .bool false, .int .i64 0, .int .i64 0]] w fun e w' =>
      e = .returned (.bool (repl (t, r, o))) ∧ w.alloc (.cells #[.int .i64 t, .string r, .int .u8 o, .string ⟨#[]⟩, .string ⟨#[]⟩, .int .i64 0, .pointer none, .int .i64 0, .bool false, .int .i64 0, .int .i64 0] 57) = w' :=
  replaces_any (t, r, o) w

/-- where the last one is, or that there is none -/
def LastZ (n : Nat) (p : Nat → Bool) (z : Int) : Prop :=
  (∃ r : Nat, r < n ∧ z = (r : Int) ∧ p r = true ∧ ∀ j, r < j → j < n → p j = false) ∨ (z = -1 ∧ ∀ j, j < n → p j = false)

set_option maxHeartbeats 1000000 in
theorem last_some (g n cap : Nat) (T : Nat → Int) (R : Nat → ByteArray) (O : Nat → Int) (w : World) (hn : n ≤ 65536)
    (hc : Hid (∀ i j u, i < n → j < 11 → (swC (T i, R i, O i))[j]? = some u → w.cell? ⟨g, i * 11 + j, none⟩ = some u)) :
    Calls Try.prog 29 #[.slice (some ⟨g, 0, none⟩) n cap] w fun e w' => ∃ z, e = .returned (.int .i64 z) ∧ LastZ n (fun i => repl (T i, R i, O i)) z ∧ Below w.heap.size w w' := by
  go_enter Try.func29, Try.ntmps29
  go_wp2_with fail
  go_loopw [3] (fun i wr => ∃ (k : Nat) (z : Int), k ≤ n ∧ z = (k : Int) - 1 ∧ i = .int .i64 z ∧ Hid (∀ j, k ≤ j → j < n → repl (T j, R j, O j) = false) ∧ Below w.heap.size w wr) (fun i _ => (intOf i + 1).toNat)
  case atStart => exact ⟨n, _, Nat.le_refl _, rfl, rfl, hide (fun j h1 h2 => absurd h1 (by omega)), Below.refl _ _⟩
  case round =>
    obtain ⟨k, z, hk, hz, rfl, hno, hbk⟩ := hrel
    cases k with
    | zero =>
      obtain rfl : z = -1 := by omega
      clear hz
      go_wp2_with fail
      go_ret
      exact ⟨_, rfl, .inr ⟨rfl, fun j hj => hno.out j (Nat.zero_le _) hj⟩, hbk⟩
    | succ k =>
      obtain rfl : z = (k : Int) := by omega
      clear hz
      have e0 : wr.cell? ⟨g, k * 11, none⟩ = some (.int .i64 (T k)) := cell_later hbk (hc.out k 0 _ (by omega) (by omega) rfl)
      have e1 : wr.cell? ⟨g, k * 11 + 1, none⟩ = some (.string (R k)) := cell_later hbk (hc.out k 1 _ (by omega) (by omega) rfl)
      have e2 : wr.cell? ⟨g, k * 11 + 2, none⟩ = some (.int .u8 (O k)) := cell_later hbk (hc.out k 2 _ (by omega) (by omega) rfl)
      have e3 : wr.cell? ⟨g, k * 11 + 3, none⟩ = some (.string ⟨#[]⟩) := cell_later hbk (hc.out k 3 _ (by omega) (by omega) rfl)
      have e4 : wr.cell? ⟨g, k * 11 + 4, none⟩ = some (.string ⟨#[]⟩) := cell_later hbk (hc.out k 4 _ (by omega) (by omega) rfl)
      have e5 : wr.cell? ⟨g, k * 11 + 5, none⟩ = some (.int .i64 0) := cell_later hbk (hc.out k 5 _ (by omega) (by omega) rfl)
      have e6 : wr.cell? ⟨g, k * 11 + 6, none⟩ = some (.pointer none) := cell_later hbk (hc.out k 6 _ (by omega) (by omega) rfl)
      have e7 : wr.cell? ⟨g, k * 11 + 7, none⟩ = some (.int .i64 0) := cell_later hbk (hc.out k 7 _ (by omega) (by omega) rfl)
      have e8 : wr.cell? ⟨g, k * 11 + 8, none⟩ = some (.bool false) := cell_later hbk (hc.out k 8 _ (by omega) (by omega) rfl)
      have e9 : wr.cell? ⟨g, k * 11 + 9, none⟩ = some (.int .i64 0) := cell_later hbk (hc.out k 9 _ (by omega) (by omega) rfl)
      have e10 : wr.cell? ⟨g, k * 11 + 10, none⟩ = some (.int .i64 0) := cell_later hbk (hc.out k 10 _ (by omega) (by omega) rfl)
      have H35 := replaces_lit (T k) (R k) (O k) wr
      cases hr : repl (T k, R k, O k) with
      | true =>
        rw [hr] at H35
        have HR := hide hr
        clear hr
        go_wp2_with (go_at_call 35; refine H35.mono ?_; clear H35; rintro e w' ⟨rfl, rfl⟩)
        go_ret
        exact ⟨_, rfl, .inl ⟨k, by omega, rfl, HR.out, fun j h1 h2 => hno.out j h1 h2⟩, hbk.alloc hbk.size _⟩
      | false =>
        rw [hr] at H35
        have HR := hide hr
        clear hr
        go_wp2_with (go_at_call 35; refine H35.mono ?_; clear H35; rintro e w' ⟨rfl, rfl⟩)
        go_roundw
        case rel =>
          refine ⟨k, _, by omega, rfl, rfl, hide (fun j h1 h2 => ?_), hbk.alloc hbk.size _⟩
          by_cases e : j = k
          · subst e; exact HR.out
          · exact hno.out j (by omega) h2
        case measure => simp [intOf]

set_option maxHeartbeats 400000 in
theorem last_nil (w : World) : Calls Try.prog 29 #[.slice none 0 0] w fun e w' => e = .returned (.int .i64 (-1)) ∧ w = w' := by
  go_enter Try.func29, Try.ntmps29
  go_wp2_with fail
  refine wp_loop_rounds 1 ?_
  rw [rounds_succ]
  go_wp2
  go_ret
  exact ⟨rfl, rfl⟩

set_option maxHeartbeats 400000 in
theorem clone2_nil (w : World) : Calls Try.prog 30 #[.slice none 0 0] w fun e w' => e = .returned (.slice none 0 0) ∧ w = w' := by
  have hnil := fun w a n c => Lib.run_eql_slice_nil (P := Try.prog) w 26 38 a n c 0 0 Try.underlying26
  go_enter Try.func30, Try.ntmps30
  go_wp2
  go_ret
  exact ⟨rfl, rfl⟩

set_option maxHeartbeats 400000 in
theorem clone2_some (B g r cap : Nat) (xs : List Value) (w : World) (hB : B ≤ w.heap.size) (hr : r ≤ 65536) (hl : xs.length = r * 2) (h1 : ∀ u ∈ xs, u.oneCell' = true) (hg : g < w.heap.size)
    (hc : ∀ j u, xs[j]? = some u → w.cell? ⟨g, j, none⟩ = some u) :
    Calls Try.prog 30 #[.slice (some ⟨g, 0, none⟩) r cap] w fun e w' => ∃ v', e = .returned v' ∧ w'.ownsRow B 38 2 v' r xs ∧ Below w.heap.size w w' := by
  obtain ⟨i0, hi, hz0, hz1, hz2⟩ := info_parts Try.info38
  have hnil := fun w a n c => Lib.run_eql_slice_nil (P := Try.prog) w 26 38 a n c 0 0 Try.underlying26
  have hown : Hid ((w.alloc (.cells #[] 38)).ownsRow w.heap.size 38 2 (.slice (some ⟨w.heap.size, 0, none⟩) 0 0) 0 []) := World.ownsRow_made w #[] 0 (Nat.le_refl _) (by decide) rfl
  have HC : Hid (∀ j u, xs[j]? = some u → (w.alloc (.cells #[] 38)).cell? ((⟨g, 0, none⟩ : Addr).add j) = some u) := fun j u hu => by
    rw [add0, World.cell?_alloc_lt _ _ _ (by exact hg)]
    exact hc j u hu
  have H1 : Hid _ := h1
  have HL : Hid _ := hl
  clear hc h1 hl
  go_enter Try.func30, Try.ntmps30
  go_wp2_with (at_builtin; go_must (refine wpList_append_keep _ rfl _ _ 26 rfl w.heap.size 38 i0 _ 2 24 Try.underlying26 hi hz0 hz1 hz2 rfl (by decide) _ _ _ rfl hown.out ⟨g, 0, none⟩ r cap xs rfl HL.out HC.out H1.out (by unfold maxLen; omega) (by omega) (by simp) ?_))
  intro v' w1 h1 h2 _
  have hb : Below w.heap.size w w1 := ((Below.refl _ w).alloc (Nat.le_refl _) _).grown h2 (by simp) (by simp [Value.ownBlock])
  have h1' : Hid (w1.ownsRow B 38 2 v' r xs) := hide (ownsRow_base h1 hB)
  clear h1 h2 hown hi hz0 hz1 hz2 hnil
  go_wp2
  go_ret
  exact ⟨v', rfl, h1'.out, hb⟩
end Go.Proofs.Qxb6617231a

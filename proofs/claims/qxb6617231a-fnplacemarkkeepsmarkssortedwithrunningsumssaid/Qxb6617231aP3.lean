import Derived.Test.Qxb6617231aP2
import Derived.Test.Qxb6617231aL1
namespace Go.Proofs.Qxb6617231a
open Go.RowKit

theorem Try.info51 : (Try.prog.info? 51).map (fun i => (i.zero, i.size, i.bytes)) = some (some (.agg #[.int .i64 0, .int .i64 0, .int .i64 0]), 3, 24) := by kernel_rfl

theorem news_alloc (w : World) (cs : List Value) (e : TypeId) : ∀ j u, cs[j]? = some u → (w.alloc (.cells cs.toArray e)).cell? ((⟨w.heap.size, 0, none⟩ : Addr).add j) = some u := by
  intro j u hu
  rw [add0, cell_of_row _ _ _ _ _ _ (heap_alloc_new w _)]
  simpa using hu

theorem ints3_oneCell (t o s : Int) : ∀ u ∈ [Value.int .i64 t, Value.int .i64 o, Value.int .i64 s], u.oneCell' = true := cells3_oneCell [(t, o, s)]

set_option maxHeartbeats 400000 in
theorem appendMark_nil (B : Nat) (t o s : Int) (w : World) (hB : B ≤ w.heap.size) :
    Calls Try.prog 33 #[.slice none 0 0, .int .i64 t, .int .i64 o, .int .i64 s] w fun e w' => ∃ v', e = .returned v' ∧ w'.ownsRow B 51 3 v' 1 [.int .i64 t, .int .i64 o, .int .i64 s] ∧ Below w.heap.size w w' := by
  obtain ⟨i0, hi, hz0, hz1, hz2⟩ := info_parts Try.info51
  have hown := World.ownsRow_nil w B 51 3
  go_enter Try.func33, Try.ntmps33
  go_wp2_with (at_builtin; go_must (refine wpList_append_keep _ rfl _ _ 42 rfl B 51 i0 _ 3 24 Try.underlying42 hi hz0 hz1 hz2 rfl (by decide) _ _ _ rfl (hown.alloc _) ⟨w.heap.size, 0, none⟩ 1 1 [.int .i64 t, .int .i64 o, .int .i64 s] rfl rfl (news_alloc _ _ _) (ints3_oneCell t o s) (by decide) (by decide) (by simp; omega) ?_))
  intro v' w1 h1 h2 _
  have hb : Below w.heap.size w w1 := ((Below.refl _ w).alloc (Nat.le_refl _) _).grown h2 (by simp) (by simp [Value.ownBlock])
  clear h2 hown hi hz0 hz1 hz2
  go_wp2
  go_ret
  exact ⟨v', rfl, h1, hb⟩

set_option maxHeartbeats 400000 in
theorem appendMark_0 (B g cap : Nat) (t o s : Int) (w : World) (hB : B ≤ w.heap.size) (hown : w.ownsRow B 51 3 (.slice (some ⟨g, 0, none⟩) 0 cap) 0 []) :
    Calls Try.prog 33 #[.slice (some ⟨g, 0, none⟩) 0 cap, .int .i64 t, .int .i64 o, .int .i64 s] w fun e w' => ∃ v', e = .returned v' ∧ w'.ownsRow B 51 3 v' 1 [.int .i64 t, .int .i64 o, .int .i64 s] ∧ w.grownBy w' (some g) := by
  obtain ⟨i0, hi, hz0, hz1, hz2⟩ := info_parts Try.info51
  go_enter Try.func33, Try.ntmps33
  go_wp2_with (at_builtin; go_must (refine wpList_append_keep _ rfl _ _ 42 rfl B 51 i0 _ 3 24 Try.underlying42 hi hz0 hz1 hz2 rfl (by decide) _ _ _ rfl (hown.alloc _) ⟨w.heap.size, 0, none⟩ 1 1 [.int .i64 t, .int .i64 o, .int .i64 s] rfl rfl (news_alloc _ _ _) (ints3_oneCell t o s) (by decide) (by decide) (by simp; omega) ?_))
  intro v' w1 h1 h2 _
  have hb : w.grownBy w1 (some g) := grownBy_trans (World.grownBy_alloc w _ _) h2 (fun i hi _ => hi)
  clear h2 hown hi hz0 hz1 hz2
  go_wp2
  go_ret
  exact ⟨v', rfl, h1, hb⟩

set_option maxHeartbeats 400000 in
theorem appendMark_some (B g n cap : Nat) (xs : List Value) (L t o s : Int) (w : World) (hB : B ≤ w.heap.size) (h0 : 0 < n) (hn : n ≤ 4096) (hown : w.ownsRow B 51 3 (.slice (some ⟨g, 0, none⟩) n cap) n xs)
    (hL : w.cell? ⟨g, (n - 1) * 3 + 2, none⟩ = some (.int .i64 L)) :
    Calls Try.prog 33 #[.slice (some ⟨g, 0, none⟩) n cap, .int .i64 t, .int .i64 o, .int .i64 s] w fun e w' => ∃ v', e = .returned v' ∧ w'.ownsRow B 51 3 v' (n + 1) (xs ++ [.int .i64 t, .int .i64 o, .int .i64 (wrap64 (s + L))]) ∧ w.grownBy w' (some g) ∧ Rd w' 3 (.slice (some ⟨g, 0, none⟩) n cap) n xs := by
  obtain ⟨i0, hi, hz0, hz1, hz2⟩ := info_parts Try.info51
  go_enter Try.func33, Try.ntmps33
  go_wp2_with (at_builtin; go_must (refine wpList_append_keep _ rfl _ _ 42 rfl B 51 i0 _ 3 24 Try.underlying42 hi hz0 hz1 hz2 rfl (by decide) _ _ _ rfl (hown.alloc _) ⟨w.heap.size, 0, none⟩ 1 1 [.int .i64 t, .int .i64 o, .int .i64 (wrap64 (s + L))] rfl rfl (news_alloc _ _ _) (ints3_oneCell t o _) (by unfold maxLen; omega) (by omega) (by simp; omega) ?_))
  intro v' w1 h1 h2 h3
  have hb : w.grownBy w1 (some g) := grownBy_trans (World.grownBy_alloc w _ _) h2 (fun i hi _ => hi)
  clear h2 hown hi hz0 hz1 hz2
  go_wp2
  go_ret
  exact ⟨v', rfl, h1, hb, h3⟩
end Go.Proofs.Qxb6617231a

import Derived.Test.Qxb6617231aP5
import Derived.Deep.RegionHeld3
import Derived.Deep.OwnRows
import Derived.Deep.DrawnRows
import Derived.BigQuiet
import Derived.Deep.QuietTactic
namespace Go.Proofs.Qxb6617231a
open Go.RowKit
attribute [local go_sem ↓] Go.wp_at_zero Go.wp_at_succ

theorem Try.info63 : (Try.prog.info? 63).map (fun i => (i.zero, i.size, i.bytes)) = some (some (.agg #[.int .i64 0, .int .i64 0, .int .i64 0]), 3, 24) := by kernel_rfl

theorem cell_three {w : World} {a : Addr} {v : Value} (h : w.cell? a = some v) (o1 o2 o3 : Obj) : (((w.alloc o1).alloc o2).alloc o3).cell? a = some v :=
  cell_later ((((Below.refl _ w).alloc (Nat.le_refl _) _).alloc (by simp) _).alloc (by simp; omega) _) h

set_option maxHeartbeats 400000 in
theorem markRows_some (g n cap : Nat) (T O U : Nat → Int) (xs : List Value) (hX : Hid (∀ i, i < n → xs[i * 3]? = some (.int .i64 (T i)) ∧ xs[i * 3 + 1]? = some (.int .i64 (O i)) ∧ xs[i * 3 + 2]? = some (.int .i64 (U i)))) (w : World) (hn : n ≤ 4096) (hg : g < w.heap.size)
    (hc : Hid (∀ i, i < n → w.cell? ⟨g, i * 3, none⟩ = some (.int .i64 (T i)) ∧ w.cell? ⟨g, i * 3 + 1, none⟩ = some (.int .i64 (O i)) ∧ w.cell? ⟨g, i * 3 + 2, none⟩ = some (.int .i64 (U i)))) :
    Calls Try.prog 17 #[.slice (some ⟨g, 0, none⟩) n cap] w fun e w' => e = .returned (.slice (some ⟨w.heap.size, 0, none⟩) n n) ∧ Filled w' w.heap.size (n * 3) (n * 3) 63 xs ∧ Below w.heap.size w w' := by
  obtain ⟨i0, hi, hz0, hz1, hz2⟩ := info_parts Try.info63
  go_enter Try.func17, Try.ntmps17
  go_wp2_with (at_make; go_must (refine wpList_make_full _ rfl _ _ 43 rfl w.heap.size 63 i0 _ 3 Try.underlying43 hi hz0 hz1 _ _ _ _ n rfl rfl rfl rfl (by rw [hz2]; omega) (by unfold maxLen; omega) (Nat.le_refl _) ?_))
  intro w1 h1 h2
  have hf := hide (Filled.made h1 xs)
  have hb1 := below_grownBy h2
  clear h1 h2 hi hz0 hz1 hz2
  go_wp2_with fail
  go_loopw [4] (fun i wr => ∃ k : Nat, k ≤ n ∧ i = .int .i64 k ∧ Filled wr w.heap.size (n * 3) (k * 3) 63 xs ∧ Below w.heap.size w wr) (fun i _ => n - (intOf i).toNat)
  case atStart => exact ⟨0, Nat.zero_le _, rfl, by simpa using hf.out, hb1⟩
  case round =>
    obtain ⟨k, hk, rfl, hfk, hbk⟩ := hrel
    have HF := hide hfk
    by_cases hlt : k < n
    · have e0 : wr.cell? ⟨g, k * 3, none⟩ = some (.int .i64 (T k)) := (hbk.cell (by exact hg)).trans (hc.out k hlt).1
      have e1 : wr.cell? ⟨g, k * 3 + 1, none⟩ = some (.int .i64 (O k)) := (hbk.cell (by exact hg)).trans (hc.out k hlt).2.1
      have e2 : wr.cell? ⟨g, k * 3 + 2, none⟩ = some (.int .i64 (U k)) := (hbk.cell (by exact hg)).trans (hc.out k hlt).2.2
      obtain ⟨c0, f0⟩ := hfk.held (j := k * 3) (by omega)
      obtain ⟨c1, f1⟩ := hfk.held (j := k * 3 + 1) (by omega)
      obtain ⟨c2, f2⟩ := hfk.held (j := k * 3 + 2) (by omega)
      have z0 : ∀ j, wr.frozen? ⟨w.heap.size, j, none⟩ = false := fun j => hfk.frozen j
      have hbk1 := hbk.size
      have hwl : w.heap.size < wr.heap.size := hfk.lt
      have f0' : ∀ o1 o2 o3, (((wr.alloc o1).alloc o2).alloc o3).cell? ⟨w.heap.size, k * 3, none⟩ = some c0 := fun o1 o2 o3 => cell_three f0 o1 o2 o3
      have f1' : ∀ o1 o2 o3, (((wr.alloc o1).alloc o2).alloc o3).cell? ⟨w.heap.size, k * 3 + 1, none⟩ = some c1 := fun o1 o2 o3 => cell_three f1 o1 o2 o3
      have f2' : ∀ o1 o2 o3, (((wr.alloc o1).alloc o2).alloc o3).cell? ⟨w.heap.size, k * 3 + 2, none⟩ = some c2 := fun o1 o2 o3 => cell_three f2 o1 o2 o3
      have z' : ∀ j o1 o2 o3, (((wr.alloc o1).alloc o2).alloc o3).frozen? ⟨w.heap.size, j, none⟩ = false := fun j o1 o2 o3 => by
        have hb : Below wr.heap.size wr (((wr.alloc o1).alloc o2).alloc o3) := (((Below.refl _ wr).alloc (Nat.le_refl _) _).alloc (by simp) _).alloc (by simp; omega) _
        exact (hb.frozen (p := ⟨w.heap.size, j, none⟩) hwl).trans (z0 j)
      clear hfk f0 f1 f2 z0
      go_wp2_with fail
      go_region_held3 (fun w' => w'.cell? ⟨g, k * 3, none⟩ = some (.int .i64 (T k)) ∧ w'.cell? ⟨g, k * 3 + 1, none⟩ = some (.int .i64 (O k)) ∧ w'.cell? ⟨g, k * 3 + 2, none⟩ = some (.int .i64 (U k))) (refine ⟨cellB (w := wr) ?_ hg e0, cellB (w := wr) ?_ hg e1, cellB (w := wr) ?_ hg e2⟩ <;> (repeat (first | with_reducible exact Below.refl _ _ | with_reducible refine Below.drew ?_ | with_reducible refine setCell0 (Nat.le_refl _) ?_ _ | with_reducible refine alloc0 hbk1 ?_ _)))
        (first | (go_at_call 20; refine (markTime_any _ _ _ _).mono ?_; rintro e w' ⟨rfl, rfl⟩) | (go_at_call 21; refine (markOff_any _ _ _ _).mono ?_; rintro e w' ⟨rfl, rfl⟩) | (go_at_call 22; refine (markUpto_any _ _ _ _).mono ?_; rintro e w' ⟨rfl, rfl⟩))
      obtain ⟨x0, x1, x2⟩ := hX.out k hlt
      have HF' : Hid (Filled (((((((wr.alloc (.cells #[.int .i64 (T k), .int .i64 (O k), .int .i64 (U k)] 51)).alloc (.cells #[.int .i64 (T k), .int .i64 (O k), .int .i64 (U k)] 51)).alloc (.cells #[.int .i64 (T k), .int .i64 (O k), .int .i64 (U k)] 51)).setCell ⟨w.heap.size, k * 3, none⟩ (.int .i64 (T k))).setCell ⟨w.heap.size, k * 3 + 1, none⟩ (.int .i64 (O k))).setCell ⟨w.heap.size, k * 3 + 2, none⟩ (.int .i64 (U k))).drew) w.heap.size (n * 3) ((k + 1) * 3) 63 xs) := hide (by
        rw [show (k + 1) * 3 = k * 3 + 1 + 1 + 1 by omega]
        exact (((((HF.out.alloc _).alloc _).alloc _).set x0).set x1).set x2)
      clear x0 x1 x2 f0' f1' f2' z' e0 e1 e2
      go_wp2_with fail
      go_roundw
      case rel =>
        refine ⟨k + 1, by omega, by go_num, HF'.out, ?_⟩
        exact Below.drew (setCell0 (Nat.le_refl _) (setCell0 (Nat.le_refl _) (setCell0 (Nat.le_refl _) (alloc0 (Nat.le_refl _) (alloc0 (Nat.le_refl _) (alloc0 (Nat.le_refl _) hbk _) _) _) _) _) _)
      case measure => simp [intOf]; omega
    · obtain rfl : k = n := by omega
      clear hfk
      go_wp2_with fail
      go_ret
      exact ⟨rfl, HF.out, hbk⟩
end Go.Proofs.Qxb6617231a

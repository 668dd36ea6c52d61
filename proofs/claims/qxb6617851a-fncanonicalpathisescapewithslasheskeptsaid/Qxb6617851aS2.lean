import Derived.Test.Qxb6617851aS1
import Derived.Laws.BytesString
import Derived.Laws.Cells
namespace Go.Proofs.Qxb6617851a
open Go.RowKit
attribute [local go_sem ↓] Go.wp_at_zero Go.wp_at_succ

theorem push_fold (l : List UInt8) : ∀ (b : ByteArray), (l.map fun c : UInt8 => (c.toNat : Int)).foldl (fun (r : ByteArray) n => r.push (UInt8.ofNat n.toNat)) b = ⟨b.data ++ l.toArray⟩ := by
  induction l with
  | nil => intro b; simp
  | cons c l ih =>
    intro b
    rw [List.map_cons, List.foldl_cons, ih]
    simp [ByteArray.push]

/-- an owned row of bytes, made a string -/
theorem conv_own {w : World} {B : Nat} {v : Value} {E : List UInt8} (h : w.ownsRow B 5 1 v E.length (bcells E)) : (convert 24 9 v).run Try.prog w = .ok (.string ⟨E.toArray⟩) w := by
  have hc := fun (g : Nat) (hg : v.ownBlock = some g) => h.cells hg
  rcases h.2 with ⟨rfl, hn⟩ | ⟨g, cap, cur, rfl, _⟩
  · obtain rfl : E = [] := List.length_eq_zero_iff.1 hn
    rw [run_convert_bytes_string w 24 9 5 none 0 0 Try.underlying24 Try.underlying5 Try.underlying9]
    rfl
  · rw [run_convert_bytes_string w 24 9 5 _ _ _ Try.underlying24 Try.underlying5 Try.underlying9]
    rw [run_bytesToString w _ _ _ (E.map fun c : UInt8 => (c.toNat : Int)) ?_]
    · rw [push_fold]
      simp
    · have := run_loadCells_list (P := Try.prog) (w := w) ⟨g, 0, none⟩ (bcells E) (hc g rfl)
      rw [bcells_length] at this
      rw [this]
      simp [bcells, Function.comp_def]

set_option maxHeartbeats 400000 in
theorem zzEscape_any (s : ByteArray) (ks : Bool) (w : World) (hs : s.size ≤ 65536) :
    Calls Try.prog 10 #[.slice none 0 0, .string s, .bool ks] w fun e w' => ∃ v', e = .returned v' ∧ w'.ownsRow w.heap.size 5 1 v' (esc ks s.data.toList).length (bcells (esc ks s.data.toList)) ∧ Below w.heap.size w w' := by
  have H := escape_any s ks w hs
  generalize bcells (esc ks s.data.toList) = L at *
  generalize (esc ks s.data.toList).length = N at *
  have H := hide H
  go_enter Try.func10, Try.ntmps10
  go_wp2_with (go_at_call 20; refine H.out.mono ?_; clear H; rintro e w' ⟨v', rfl, ho, hb⟩)
  go_ret
  exact ⟨_, rfl, ho, hb⟩
end Go.Proofs.Qxb6617851a

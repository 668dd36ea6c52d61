import Derived.Test.Qxb6617231aD2
import Derived.ProofKit
import Derived.OpenShut
import Derived.Deep.Slices
import Derived.Deep.Strs
import Derived.Lib.SmallJoins
namespace Go.Proofs.Qxb6617231a
open Go.ChangeShapes Go.WideShapes Go.ChangeAt Go.RowKit Go.Deep

theorem cells53 : Try.prog.cellsOf 53 = 2 := by kernel_rfl
theorem cells34 : Try.prog.cellsOf 34 = 3 := by kernel_rfl
theorem cellsOf2 : Try.prog.cellsOf 2 = 1 := by kernel_rfl
theorem cells9 : Try.prog.cellsOf 9 = 1 := by kernel_rfl
theorem cells5 : Try.prog.cellsOf 5 = 1 := by kernel_rfl

/-- a list by its elements -/
theorem range_getD {α : Type} (F : Nat → α) (d : α) (n i : Nat) (h : i < n) : ((List.range n).map F).getD i d = F i := by
  simp [List.getD, h]

/-- a slice of stamps, opened -/
theorem open_stamps {H : Type} {enc : TypeId × Value → H} {w : World} {a : Option Addr} {len cap : Nat} {d : DataW H} {ps : List MemPlace}
    (h : DataW.Trod enc Try.prog w 0 (fun _ => true) true 22 (.slice a len cap) d ps) :
    ∃ l, len ≤ maxLen ∧ len ≤ cap ∧ (a = none → len = 0 ∧ cap = 0) ∧ StIn w a len l := by
  obtain ⟨fuel, hf⟩ := h
  rcases open_slice Try.underlying22 hf with ⟨hcs, _⟩ | ⟨ad, len', cap', m, n, D, Pl, hcs, _, hl, hm, hmm, _, hx⟩
  · simp [Value.cells] at hcs
    obtain ⟨rfl, rfl, rfl⟩ := hcs
    exact ⟨[], Nat.zero_le _, Nat.zero_le _, fun _ => ⟨rfl, rfl⟩, rfl, fun i hi => absurd hi (by omega)⟩
  · simp [Value.cells] at hcs
    obtain ⟨rfl, rfl, rfl⟩ := hcs
    simp only [if_true] at hmm
    subst hmm
    have each : ∀ i, i < len → ∃ q : Int × ByteArray, w.cell? (ad.add (i * 2)) = some (.int .i64 q.1) ∧ w.cell? (ad.add (i * 2 + 1)) = some (.string q.2) := by
      intro i hi
      obtain ⟨cs', h1, h2⟩ := hx i (by omega)
      rw [cells53] at h1
      obtain ⟨_, hlen, hc⟩ := World.cells?_some h1
      obtain ⟨y0, y1, k, _, _, t0, t1⟩ := trod_struct2 Try.underlying53 h2
      match cs', hlen with
      | [c0, c1], _ =>
        simp only [cellsOf2, cells9] at t0 t1
        obtain ⟨z0, e0, _, _⟩ := DataW.trod_int Try.underlying2 t0
        obtain ⟨z1, e1, _, _⟩ := DataW.trod_string Try.underlying9 t1
        simp at e0 e1
        subst e0 e1
        have c0 := hc 0 (by omega)
        have c1 := hc 1 (by omega)
        rw [add_add] at c0 c1
        exact ⟨(z0, z1), by simpa using c0, by simpa using c1⟩
    obtain ⟨Q, hQ⟩ := choose_lt each
    refine ⟨(List.range len).map Q, Nat.le_trans hl hm, hl, (fun e => by cases e), by simp, fun i hi => ?_⟩
    obtain ⟨q0, q1⟩ := hQ i hi
    obtain ⟨b, off, spot⟩ := ad
    have hspot : spot = none := by simpa [Addr.add] using World.cell?_spot (hQ 0 (by omega)).1
    subst hspot
    rw [range_getD Q st0 len i hi]
    simp only [add_plain, ← Nat.add_assoc] at q0 q1
    exact ⟨b, off, rfl, q0, q1⟩

/-- a slice of writes, opened -/
theorem open_writes {H : Type} {enc : TypeId × Value → H} {w : World} {a : Option Addr} {len cap : Nat} {d : DataW H} {ps : List MemPlace}
    (h : DataW.Trod enc Try.prog w 0 (fun _ => true) true 23 (.slice a len cap) d ps) :
    ∃ l, len ≤ maxLen ∧ len ≤ cap ∧ (a = none → len = 0 ∧ cap = 0) ∧ WrIn w a len l := by
  obtain ⟨fuel, hf⟩ := h
  rcases open_slice Try.underlying23 hf with ⟨hcs, _⟩ | ⟨ad, len', cap', m, n, D, Pl, hcs, _, hl, hm, hmm, _, hx⟩
  · simp [Value.cells] at hcs
    obtain ⟨rfl, rfl, rfl⟩ := hcs
    exact ⟨[], Nat.zero_le _, Nat.zero_le _, fun _ => ⟨rfl, rfl⟩, rfl, fun i hi => absurd hi (by omega)⟩
  · simp [Value.cells] at hcs
    obtain ⟨rfl, rfl, rfl⟩ := hcs
    simp only [if_true] at hmm
    subst hmm
    have each : ∀ i, i < len → ∃ q : Int × ByteArray × Int, w.cell? (ad.add (i * 3)) = some (.int .i64 q.1) ∧ w.cell? (ad.add (i * 3 + 1)) = some (.string q.2.1) ∧ w.cell? (ad.add (i * 3 + 2)) = some (.int .u8 q.2.2) := by
      intro i hi
      obtain ⟨cs', h1, h2⟩ := hx i (by omega)
      rw [cells34] at h1
      obtain ⟨_, hlen, hc⟩ := World.cells?_some h1
      obtain ⟨y0, y1, y2, k, _, _, t0, t1, t2⟩ := trod_struct3 Try.underlying34 h2
      match cs', hlen with
      | [c0, c1, c2], _ =>
        simp only [cellsOf2, cells9, cells5] at t0 t1 t2
        obtain ⟨z0, e0, _, _⟩ := DataW.trod_int Try.underlying2 t0
        obtain ⟨z1, e1, _, _⟩ := DataW.trod_string Try.underlying9 t1
        obtain ⟨z2, e2, _, _⟩ := DataW.trod_int Try.underlying5 t2
        simp at e0 e1 e2
        subst e0 e1 e2
        have c0 := hc 0 (by omega)
        have c1 := hc 1 (by omega)
        have c2 := hc 2 (by omega)
        rw [add_add] at c0 c1 c2
        exact ⟨(z0, z1, z2), by simpa using c0, by simpa using c1, by simpa using c2⟩
    obtain ⟨Q, hQ⟩ := choose_lt each
    refine ⟨(List.range len).map Q, Nat.le_trans hl hm, hl, (fun e => by cases e), by simp, fun i hi => ?_⟩
    obtain ⟨q0, q1, q2⟩ := hQ i hi
    obtain ⟨b, off, spot⟩ := ad
    have hspot : spot = none := by simpa [Addr.add] using World.cell?_spot (hQ 0 (by omega)).1
    subst hspot
    rw [range_getD Q wr0 len i hi]
    simp only [add_plain, ← Nat.add_assoc] at q0 q1 q2
    exact ⟨b, off, rfl, q0, q1, q2⟩
end Go.Proofs.Qxb6617231a

import Derived.Test.Qxb6617231aP8
import Derived.ProofKit
import Derived.OpenShut
import Derived.Deep.Slices
import Derived.Deep.Strs
namespace Go.Proofs.Qxb6617231a.place
open Go.ChangeShapes Go.WideShapes Go.ChangeAt Go.RowKit Go.Deep
open Go.Proofs.Qxb6617231a

theorem own : ownKnob Try.prog.godebug = none := by kernel_rfl
theorem laidOut : laidOutB Try.prog = true := by kernel_rfl
theorem cells47 : Try.prog.cellsOf 47 = 3 := by kernel_rfl
theorem cells2 : Try.prog.cellsOf 2 = 1 := by kernel_rfl

theorem wrap_of_wf {x : Int} (h : (Lit.int .i64 x).wf = true) : wrap64 x = x := by
  simp [Lit.wf, IntKind.min, IntKind.max, IntKind.signed, IntKind.bits] at h
  unfold wrap64
  omega

/-- a slice of places, opened -/
theorem open_places {H : Type} {enc : TypeId × Value → H} {w : World} {a : Option Addr} {len cap : Nat} {d : DataW H} {ps : List MemPlace}
    (h : DataW.Trod enc Try.prog w 0 (fun _ => true) true 40 (.slice a len cap) d ps) :
    len ≤ maxLen ∧ (0 < len → ∃ b off, ∃ T O S : Nat → Int, a = some ⟨b, off, none⟩ ∧ b < w.heap.size ∧
      (∀ i, i < len → w.cell? ⟨b, off + i * 3, none⟩ = some (.int .i64 (T i)) ∧ w.cell? ⟨b, off + i * 3 + 1, none⟩ = some (.int .i64 (O i)) ∧ w.cell? ⟨b, off + i * 3 + 2, none⟩ = some (.int .i64 (S i))) ∧
      (∀ i, i < len → wrap64 (S i) = S i)) := by
  obtain ⟨fuel, hf⟩ := h
  rcases open_slice Try.underlying40 hf with ⟨hcs, _⟩ | ⟨ad, len', cap', m, n, D, Pl, hcs, _, hl, hm, hmm, _, hx⟩
  · simp [Value.cells] at hcs
    obtain ⟨rfl, rfl, rfl⟩ := hcs
    exact ⟨Nat.zero_le _, fun h => absurd h (by omega)⟩
  · simp [Value.cells] at hcs
    obtain ⟨rfl, rfl, rfl⟩ := hcs
    simp only [if_true] at hmm
    subst hmm
    refine ⟨Nat.le_trans hl hm, fun hpos => ?_⟩
    have each : ∀ i, i < len → ∃ q : Int × Int × Int, w.cell? (ad.add (i * 3)) = some (.int .i64 q.1) ∧ w.cell? (ad.add (i * 3 + 1)) = some (.int .i64 q.2.1) ∧ w.cell? (ad.add (i * 3 + 2)) = some (.int .i64 q.2.2) ∧ wrap64 q.2.2 = q.2.2 := by
      intro i hi
      obtain ⟨cs', h1, h2⟩ := hx i (by omega)
      rw [cells47] at h1
      obtain ⟨_, hlen, hc⟩ := World.cells?_some h1
      obtain ⟨y0, y1, y2, k, _, _, t0, t1, t2⟩ := trod_struct3 Try.underlying47 h2
      match cs', hlen with
      | [c0, c1, c2], _ =>
        simp only [cells2] at t0 t1 t2
        obtain ⟨z0, e0, _, _⟩ := DataW.trod_int Try.underlying2 t0
        obtain ⟨z1, e1, _, _⟩ := DataW.trod_int Try.underlying2 t1
        obtain ⟨z2, e2, _, f2⟩ := DataW.trod_int Try.underlying2 t2
        simp at e0 e1 e2
        subst e0 e1 e2
        have c0 := hc 0 (by omega)
        have c1 := hc 1 (by omega)
        have c2 := hc 2 (by omega)
        rw [add_add] at c0 c1 c2
        exact ⟨(z0, z1, z2), by simpa using c0, by simpa using c1, by simpa using c2, wrap_of_wf f2⟩
    obtain ⟨Q, hQ⟩ := choose_lt each
    obtain ⟨b, off, spot⟩ := ad
    have hspot : spot = none := by simpa [Addr.add] using World.cell?_spot (hQ 0 hpos).1
    subst hspot
    have hb : b < w.heap.size := by simpa [Addr.add] using World.block_lt_of_cell? w _ (hQ 0 hpos).1
    refine ⟨b, off, fun i => (Q i).1, fun i => (Q i).2.1, fun i => (Q i).2.2, rfl, hb, fun i hi => ?_, fun i hi => (hQ i hi).2.2.2⟩
    obtain ⟨q0, q1, q2, _⟩ := hQ i hi
    simp only [add_plain, ← Nat.add_assoc] at q0 q1 q2
    exact ⟨q0, q1, q2⟩

theorem walk {W : World} {a : Option Addr} {len cap : Nat} (h1 : len ≤ maxLen) (h2 : 0 < len → ∃ b off, ∃ T O S : Nat → Int, a = some ⟨b, off, none⟩ ∧ b < W.heap.size ∧
      (∀ i, i < len → W.cell? ⟨b, off + i * 3, none⟩ = some (.int .i64 (T i)) ∧ W.cell? ⟨b, off + i * 3 + 1, none⟩ = some (.int .i64 (O i)) ∧ W.cell? ⟨b, off + i * 3 + 2, none⟩ = some (.int .i64 (S i))) ∧
      (∀ i, i < len → wrap64 (S i) = S i)) :
    Calls Try.prog 5 #[.slice a len cap] W fun e w' => e = .returned (.bool true) ∧ Below W.heap.size W w' := by
  by_cases hbig : 4096 < len
  · exact law_big a len cap h1 hbig W
  · by_cases hz : len = 0
    · subst hz
      exact law_zero a cap W
    · obtain ⟨b, off, T, O, S, rfl, hb, hc, hS⟩ := h2 (by omega)
      exact law_walk b off len cap T O S W (by omega) (by omega) hb (hide hc) (hide hS)

set_option maxRecDepth 100000 in
theorem lifted (os : Os) (started : os.Started) (H : Type) (enc : TypeId × Value → H) :
    ReturnsInHanded {} Try.checked os 5 .any (Rows.fnPlaceMarkKeepsMarksSortedWithRunningSumsSpec.pre6 enc Try.prog Try.f5 Rows.fnPlaceMarkKeepsMarksSortedWithRunningSumsRow.domain false) (Rows.fnPlaceMarkKeepsMarksSortedWithRunningSumsSpec.post enc Try.prog Try.f5 false true false false) := by
  refine returnsInHanded_of_change (C := Try.checked) own started (by kernel_rfl) Try.func5
    (ChangeSpec.witness6 (enc := enc) (C := Try.checked) false ⟨#[], #[.slice none 0 0], []⟩ 8 (by kernel_rfl) (by kernel_rfl) (by kernel_rfl) (by kernel_rfl)) ?_
  intro W base args ds gs before hval0 hW hcnd _
  have hval : ∀ (j : Nat) t v, Try.f5.params[j]? = some t → args[j]? = some v → Value.okWide Try.prog W .any base t v := hval0
  have hW' := hW
  obtain ⟨p, q, hA0, hV, rfl, hfz, hnd⟩ := hW
  have hA : DataW.TrodAll enc Try.prog W 0 (fun _ => true) true Try.f5.params.toList args.toList ds p := hA0
  rw [Try.params5] at hA hval
  obtain ⟨v0, vs0, d0, ds0, p0, q0, hargs, rfl, rfl, h0, r0⟩ := trodAll_cons hA
  obtain ⟨rfl, rfl, rfl⟩ := trodAll_nil r0
  obtain rfl : args = #[v0] := by cases args; simp_all
  obtain ⟨rfl, rfl⟩ := trodVars_none hV
  obtain ⟨a0, len0, cap0, rfl⟩ := okWide_slice Try.underlying40 (hval 0 40 v0 rfl rfl)
  have lt0 : ∀ x ∈ p0, x.block < W.heap.size := by obtain ⟨m, hm⟩ := h0; exact DataW.trod_lt m _ _ _ hm
  obtain ⟨o1, o2⟩ := open_places h0
  clear hA0 hval0
  refine (walk o1 o2).mono fun e W' ⟨he, bel⟩ => ?_
  subst he
  exact ⟨_, rfl, _, _, _, [], _, [], hW', trodAll_mk1 (shut_bool Try.underlying4 _), (trodAll_cons_mk (Below.trod laidOut (by kernel_rfl) (of_decide_eq_true (by kernel_rfl)) h0 bel lt0) trodAll_mk0), rfl, bel.frame _, fun h => by cases h⟩

theorem over : Rows.fnPlaceMarkKeepsMarksSortedWithRunningSumsRow.holds Try.pinned (OpenSpec.ofChange Rows.fnPlaceMarkKeepsMarksSortedWithRunningSumsSpec) :=
  OpenClaim.holds_of_wide 5 Try.f5 rfl rfl rfl rfl rfl rfl rfl ⟨rfl, rfl, rfl, rfl, rfl⟩ rfl rfl rfl rfl rfl (by kernel_rfl) Try.func5 (by kernel_rfl)
    (of_decide_eq_true (by kernel_rfl)) (by unfold Func.isWrapper; first | (rw [if_pos (by decide +kernel)]; kernel_rfl) | (rw [if_neg (by decide +kernel)]; exact ⟨rfl, rfl⟩))
    (fun os started H enc _ => lifted os started H enc)

/-- THE STATEMENT -/
theorem proved : Rows.FnPlaceMarkKeepsMarksSortedWithRunningSumsSaid :=
  over
#print axioms proved
end Go.Proofs.Qxb6617231a.place

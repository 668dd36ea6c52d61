import Derived.Test.Qxb6617231aD10
import Derived.Test.Qxb6617231aOpen
namespace Go.Proofs.Qxb6617231a.put
open Go.ChangeShapes Go.WideShapes Go.ChangeAt Go.RowKit Go.Deep Go.Joins
open Go.Proofs.Qxb6617231a

theorem own : ownKnob Try.prog.godebug = none := by kernel_rfl
theorem laidOut : laidOutB Try.prog = true := by kernel_rfl

set_option maxRecDepth 100000 in
theorem lifted (os : Os) (started : os.Started) (H : Type) (enc : TypeId × Value → H) :
    ReturnsInHanded {} Try.checked os 4 .any (Rows.fnDecidingOfPutOrDeleteForgetsWhatCameBeforeSpec.pre6 enc Try.prog Try.f4 Rows.fnDecidingOfPutOrDeleteForgetsWhatCameBeforeRow.domain false) (Rows.fnDecidingOfPutOrDeleteForgetsWhatCameBeforeSpec.post enc Try.prog Try.f4 false true false false) := by
  refine returnsInHanded_of_change (C := Try.checked) own started (by kernel_rfl) Try.func4
    (ChangeSpec.witness6 (enc := enc) (C := Try.checked) false ⟨#[], #[.slice none 0 0, .slice none 0 0, .int .i64 0, .agg #[.int .i64 0, .string ByteArray.empty, .int .u8 0]], []⟩ 8 (by kernel_rfl) (by kernel_rfl) (by kernel_rfl) (by kernel_rfl)) ?_
  intro W base args ds gs before hval0 hW hcnd _
  have hval : ∀ (j : Nat) t v, Try.f4.params[j]? = some t → args[j]? = some v → Value.okWide Try.prog W .any base t v := hval0
  have hW' := hW
  obtain ⟨p, q, hA0, hV, rfl, hfz, hnd⟩ := hW
  have hA : DataW.TrodAll enc Try.prog W 0 (fun _ => true) true Try.f4.params.toList args.toList ds p := hA0
  rw [Try.params4] at hA hval
  obtain ⟨v0, vs0, d0, ds0, p0, q0, hargs, rfl, rfl, h0, r0⟩ := trodAll_cons hA
  obtain ⟨v1, vs1, d1, ds1, p1, q1, rfl, rfl, rfl, h1, r1⟩ := trodAll_cons r0
  obtain ⟨v2, vs2, d2, ds2, p2, q2, rfl, rfl, rfl, h2, r2⟩ := trodAll_cons r1
  obtain ⟨v3, vs3, d3, ds3, p3, q3, rfl, rfl, rfl, h3, r3⟩ := trodAll_cons r2
  obtain ⟨rfl, rfl, rfl⟩ := trodAll_nil r3
  obtain rfl : args = #[v0, v1, v2, v3] := by cases args; simp_all
  obtain ⟨rfl, rfl⟩ := trodVars_none hV
  obtain ⟨a0, len0, cap0, rfl⟩ := okWide_slice Try.underlying22 (hval 0 22 v0 rfl rfl)
  obtain ⟨a1, len1, cap1, rfl⟩ := okWide_slice Try.underlying23 (hval 1 23 v1 rfl rfl)
  obtain ⟨x2, rfl, rfl, rfl, w2⟩ := open_int Try.underlying3 (hval 2 3 v2 rfl rfl) h2
  have k3 := h3
  have lt0 : ∀ x ∈ p0, x.block < W.heap.size := by obtain ⟨m, hm⟩ := h0; exact DataW.trod_lt m _ _ _ hm
  have lt1 : ∀ x ∈ p1, x.block < W.heap.size := by obtain ⟨m, hm⟩ := h1; exact DataW.trod_lt m _ _ _ hm
  have lt3 : ∀ x ∈ p3, x.block < W.heap.size := by obtain ⟨m, hm⟩ := h3; exact DataW.trod_lt m _ _ _ hm
  obtain ⟨bl, b1, b2, b3, b4⟩ := open_stamps h0
  obtain ⟨wl, c1, c2, c3, c4⟩ := open_writes h1
  obtain ⟨t, r, o, hv3⟩ : ∃ (t : Int) (r : ByteArray) (o : Int), v3 = .agg #[.int .i64 t, .string r, .int .u8 o] := by
    obtain ⟨e0, e1, e2, y0, y1, y2, n, rfl, _, _, g0, g1, g2⟩ := open_agg3 Try.underlying34 (by kernel_rfl) cells34 (hval 3 34 v3 rfl rfl) h3
    obtain ⟨z0, f0, _, _⟩ := DataW.trod_int Try.underlying2 g0
    obtain ⟨z1, f1, _, _⟩ := DataW.trod_string Try.underlying9 g1
    obtain ⟨z2, f2, _, _⟩ := DataW.trod_int Try.underlying5 g2
    simp at f0 f1 f2
    subst f0 f1 f2
    exact ⟨z0, z1, z2, rfl⟩
  subst hv3
  clear hA0 hval0
  refine (put_walk a0 len0 cap0 bl a1 len1 cap1 wl x2 t o r W b1 c2 c1 (hide b3) (hide c3) (hide b4) (hide c4)).mono fun e W' ⟨he, bel⟩ => ?_
  subst he
  exact ⟨_, rfl, _, _, _, [], _, [], hW', trodAll_mk1 (shut_bool Try.underlying4 _), (trodAll_cons_mk (Below.trod laidOut (by kernel_rfl) (of_decide_eq_true (by kernel_rfl)) h0 bel lt0) (trodAll_cons_mk (Below.trod laidOut (by kernel_rfl) (of_decide_eq_true (by kernel_rfl)) h1 bel lt1) (trodAll_cons_mk (shut_int Try.underlying3 w2) (trodAll_cons_mk (Below.trod laidOut (by kernel_rfl) (of_decide_eq_true (by kernel_rfl)) k3 bel lt3) trodAll_mk0)))), rfl, bel.frame _, fun h => by cases h⟩

theorem over : Rows.fnDecidingOfPutOrDeleteForgetsWhatCameBeforeRow.holds Try.pinned (OpenSpec.ofChange Rows.fnDecidingOfPutOrDeleteForgetsWhatCameBeforeSpec) :=
  OpenClaim.holds_of_wide 4 Try.f4 rfl rfl rfl rfl rfl rfl rfl ⟨rfl, rfl, rfl, rfl, rfl⟩ rfl rfl rfl rfl rfl (by kernel_rfl) Try.func4 (by kernel_rfl)
    (of_decide_eq_true (by kernel_rfl)) (by unfold Func.isWrapper; first | (rw [if_pos (by decide +kernel)]; kernel_rfl) | (rw [if_neg (by decide +kernel)]; exact ⟨rfl, rfl⟩))
    (fun os started H enc _ => lifted os started H enc)

/-- THE STATEMENT -/
theorem proved : Rows.FnDecidingOfPutOrDeleteForgetsWhatCameBeforeSaid :=
  over
#print axioms proved
end Go.Proofs.Qxb6617231a.put

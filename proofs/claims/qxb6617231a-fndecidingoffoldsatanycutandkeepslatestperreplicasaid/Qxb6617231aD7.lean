import Derived.Test.Qxb6617231aD6
namespace Go.Proofs.Qxb6617231a
open Go.RowKit

theorem decideL_length (l : List (Int × ByteArray)) (s : Int × ByteArray) : (decideL l s).length ≤ l.length + 1 ∧ l.length ≤ (decideL l s).length := by
  induction l with
  | nil => simp [decideL]
  | cons d l ih =>
    rw [decideL]
    split
    · split <;> simp
    · simp only [List.length_cons]; omega

theorem foldS_length (acc : List (Int × ByteArray)) (l : List (Int × ByteArray × Int)) : (foldS acc l).length ≤ acc.length + l.length := by
  induction l generalizing acc with
  | nil => simp [foldS]
  | cons s l ih =>
    have h1 := ih (decideL acc (stampOf s))
    have h2 := (decideL_length acc (stampOf s)).1
    simp only [foldS, List.foldl_cons, List.length_cons] at h1 ⊢
    omega

theorem foldS_succ (acc : List (Int × ByteArray)) (l : List (Int × ByteArray × Int)) (k : Nat) (h : k < l.length) : foldS acc (l.take (k + 1)) = decideL (foldS acc (l.take k)) (stampOf (l.getD k wr0)) := by
  unfold foldS
  rw [List.take_succ_eq_append_getElem h, List.foldl_append]
  simp only [List.foldl_cons, List.foldl_nil]
  rw [List.getD_eq_getElem?_getD, List.getElem?_eq_getElem h]
  rfl

/-- the loop so far, its list behind a name -/
def foldAt (acc : List (Int × ByteArray)) (l : List (Int × ByteArray × Int)) (k : Nat) : List (Int × ByteArray) := foldS acc (l.take k)

theorem foldAt_step {w : World} {B : Nat} {v : Value} (acc : List (Int × ByteArray)) (l : List (Int × ByteArray × Int)) (k : Nat) (t : Int) (r : ByteArray) (o : Int) (h : k < l.length) (he : l.getD k wr0 = (t, r, o))
    (hown : w.ownsRow B 38 2 v (decideL (foldAt acc l k) (t, r)).length (cells2 (decideL (foldAt acc l k) (t, r)))) : w.ownsRow B 38 2 v (foldAt acc l (k + 1)).length (cells2 (foldAt acc l (k + 1))) := by
  have e : foldAt acc l (k + 1) = decideL (foldAt acc l k) (t, r) := by
    unfold foldAt
    rw [foldS_succ acc l k h, he]
    rfl
  rw [e]
  exact hown

theorem LastZ.at {n : Nat} {p : Nat → Bool} {z : Int} (h : LastZ n p z) {r : Nat} (hr : r < n) (h1 : p r = true) (h2 : ∀ j, r < j → j < n → p j = false) : z = (r : Int) := by
  rcases h with ⟨q, hq, rfl, a1, a2⟩ | ⟨_, a1⟩
  · have : q = r := by
      rcases Nat.lt_trichotomy q r with c | c | c
      · have := a2 r c hr; rw [h1] at this; cases this
      · exact c
      · have := h2 q c hq; rw [this] at a1; cases a1
    rw [this]
  · have := a1 r hr; rw [h1] at this; cases this

theorem LastZ.no {n : Nat} {p : Nat → Bool} {z : Int} (h : LastZ n p z) (h1 : ∀ j, j < n → p j = false) : z = -1 := by
  rcases h with ⟨q, hq, rfl, a1, a2⟩ | ⟨h, _⟩
  · have := h1 q hq; rw [this] at a1; cases a1
  · exact h

theorem decide_lit (B : Nat) (v : Value) (l : List (Int × ByteArray)) (t : Int) (r : ByteArray) (w : World) (hBw : B ≤ w.heap.size) (hn : l.length ≤ 65536) (hown : w.ownsRow B 38 2 v l.length (cells2 l)) :
    Calls Try.prog 31 #[v, .agg #[.int .i64 t, .string r]] w fun e w' => ∃ v', e = .returned v' ∧ w'.ownsRow B 38 2 v' (decideL l (t, r)).length (cells2 (decideL l (t, r))) ∧ w.grownBy w' v.ownBlock :=
  decide_any B v l (t, r) w hBw hn hown

theorem clone2_any (B : Nat) (v : Value) (l : List (Int × ByteArray)) (w : World) (hB : B ≤ w.heap.size) (hn : l.length ≤ 65536) (h : Rd w 2 v l.length (cells2 l)) :
    Calls Try.prog 30 #[v] w fun e w' => ∃ v', e = .returned v' ∧ w'.ownsRow B 38 2 v' l.length (cells2 l) ∧ Below w.heap.size w w' := by
  rcases h.2 with ⟨rfl, h0⟩ | ⟨g, cap, rfl, hg, _, hc⟩
  · have : l = [] := List.eq_nil_of_length_eq_zero h0
    subst this
    refine (clone2_nil w).mono ?_
    rintro e w' ⟨rfl, rfl⟩
    exact ⟨_, rfl, World.ownsRow_nil _ _ _ _, Below.refl _ _⟩
  · exact clone2_some B g l.length cap (cells2 l) w hB hn (cells2_length l) (cells2_oneCell l) hg hc

set_option maxHeartbeats 1000000 in
/-- decidingOf where a put or a delete is among the writes: from the last one on -/
theorem deciding_last (g n cap r : Nat) (vb : Value) (l : List (Int × ByteArray × Int)) (T : Nat → Int) (R : Nat → ByteArray) (O : Nat → Int) (w : World) (hn : n ≤ 32768) (hcap : n ≤ cap) (hrn : r < n)
    (hl : Hid (l.length = n - r)) (hT : Hid (∀ i, i < n - r → l.getD i wr0 = (T (r + i), R (r + i), O (r + i))))
    (hc : Hid (∀ i j u, i < n → j < 11 → (swC (T i, R i, O i))[j]? = some u → w.cell? ⟨g, i * 11 + j, none⟩ = some u))
    (hr1 : repl (T r, R r, O r) = true) (hr2 : ∀ j, r < j → j < n → repl (T j, R j, O j) = false) :
    Calls Try.prog 23 #[vb, .slice (some ⟨g, 0, none⟩) n cap] w fun e w' => ∃ v', e = .returned v' ∧ w'.ownsRow w.heap.size 38 2 v' (foldS [] l).length (cells2 (foldS [] l)) ∧ Below w.heap.size w w' := by
  have H29 := last_some g n cap T R O w (by omega) hc
  have HR1 := hide hr1
  have HR2 := hide hr2
  clear hr1 hr2
  have hcr : ¬ cap = r := by omega
  go_enter Try.func23, Try.ntmps23
  go_wp2_with fail
  refine H29.mono ?_
  clear H29
  rintro e w1 ⟨z, rfl, hz, hb1⟩
  have hzr : z = (r : Int) := hz.at hrn HR1.out HR2.out
  clear hz HR1 HR2
  subst hzr
  go_wp2_with fail
  go_loopw [5, 20] (fun v i wr => ∃ k : Nat, k ≤ n - r ∧ i = .int .i64 k ∧ wr.ownsRow w.heap.size 38 2 v (foldAt [] l k).length (cells2 (foldAt [] l k)) ∧ Below w.heap.size w wr) (fun _ i _ => (n - r) - (intOf i).toNat)
  case atStart => exact ⟨0, Nat.zero_le _, rfl, World.ownsRow_nil _ _ _ _, hb1⟩
  case round =>
    obtain ⟨k, hk, rfl, hown, hbk⟩ := hrel
    have HO := hide hown
    clear hown
    by_cases hlt : k < n - r
    · have cc : ∀ j u, j < 11 → (swC (T (r + k), R (r + k), O (r + k)))[j]? = some u → wr.cell? ⟨g, r * 11 + k * 11 + j, none⟩ = some u := fun j u hj hu => by
        rw [← Nat.add_mul]; exact cell_later hbk (hc.out (r + k) j u (by omega) hj hu)
      have e0 : wr.cell? ⟨g, r * 11 + k * 11, none⟩ = some (.int .i64 (T (r + k))) := cc 0 _ (by omega) rfl
      have e1 : wr.cell? ⟨g, r * 11 + k * 11 + 1, none⟩ = some (.string (R (r + k))) := cc 1 _ (by omega) rfl
      have e2 : wr.cell? ⟨g, r * 11 + k * 11 + 2, none⟩ = some (.int .u8 (O (r + k))) := cc 2 _ (by omega) rfl
      have e3 : wr.cell? ⟨g, r * 11 + k * 11 + 3, none⟩ = some (.string ⟨#[]⟩) := cc 3 _ (by omega) rfl
      have e4 : wr.cell? ⟨g, r * 11 + k * 11 + 4, none⟩ = some (.string ⟨#[]⟩) := cc 4 _ (by omega) rfl
      have e5 : wr.cell? ⟨g, r * 11 + k * 11 + 5, none⟩ = some (.int .i64 0) := cc 5 _ (by omega) rfl
      have e6 : wr.cell? ⟨g, r * 11 + k * 11 + 6, none⟩ = some (.pointer none) := cc 6 _ (by omega) rfl
      have e7 : wr.cell? ⟨g, r * 11 + k * 11 + 7, none⟩ = some (.int .i64 0) := cc 7 _ (by omega) rfl
      have e8 : wr.cell? ⟨g, r * 11 + k * 11 + 8, none⟩ = some (.bool false) := cc 8 _ (by omega) rfl
      have e9 : wr.cell? ⟨g, r * 11 + k * 11 + 9, none⟩ = some (.int .i64 0) := cc 9 _ (by omega) rfl
      have e10 : wr.cell? ⟨g, r * 11 + k * 11 + 10, none⟩ = some (.int .i64 0) := cc 10 _ (by omega) rfl
      clear cc
      have hlen : (foldAt [] l k).length ≤ 65536 := by
        have := foldS_length [] (l.take k)
        unfold foldAt
        rw [List.length_take] at this
        simp only [List.length_nil] at this
        have := hl.out
        omega
      go_wp2_with fail
      have H31 := decide_lit w.heap.size u5 (foldAt [] l k) (T (r + k)) (R (r + k)) (wr.alloc (.cells #[.int .i64 (T (r + k)), .string (R (r + k)), .int .u8 (O (r + k)), .string ⟨#[]⟩, .string ⟨#[]⟩, .int .i64 0, .pointer none, .int .i64 0, .bool false, .int .i64 0, .int .i64 0] 57)) (Nat.le_trans hbk.size (by simp)) hlen (HO.out.alloc _)
      refine H31.mono ?_
      clear H31
      rintro e w2 ⟨v', rfl, h1, h2⟩
      have H1 := hide (foldAt_step [] l k _ _ _ (by rw [hl.out]; exact hlt) (hT.out k hlt) h1)
      have hb2 : Below w.heap.size w w2 := (hbk.alloc hbk.size _).grown h2 (Nat.le_trans hbk.size (by simp)) (fun j hj => (HO.out.lt j hj).1)
      clear h1 h2 HO hlen e0 e1 e2 e3 e4 e5 e6 e7 e8 e9 e10
      go_wp2_with fail
      go_roundw
      case rel => exact ⟨k + 1, by omega, by go_num, H1.out, hb2⟩
      case measure => simp [intOf]; omega
    · obtain rfl : k = n - r := by omega
      go_wp2_with fail
      go_ret
      have e : foldAt [] l (n - r) = foldS [] l := by
        unfold foldAt
        rw [List.take_of_length_le (Nat.le_of_eq hl.out)]
      rw [e] at HO
      exact ⟨_, rfl, HO.out, hbk⟩

set_option maxHeartbeats 1000000 in
/-- decidingOf where no put or delete is among the writes: base and all of them -/
theorem deciding_none (g n cap : Nat) (vb : Value) (bl : List (Int × ByteArray)) (l : List (Int × ByteArray × Int)) (T : Nat → Int) (R : Nat → ByteArray) (O : Nat → Int) (w : World) (hn : bl.length + n ≤ 32768) (_hcap : n ≤ cap)
    (hb : Hid (Rd w 2 vb bl.length (cells2 bl)))
    (hl : Hid (l.length = n)) (hT : Hid (∀ i, i < n → l.getD i wr0 = (T i, R i, O i)))
    (hc : Hid (∀ i j u, i < n → j < 11 → (swC (T i, R i, O i))[j]? = some u → w.cell? ⟨g, i * 11 + j, none⟩ = some u))
    (hr2 : ∀ j, j < n → repl (T j, R j, O j) = false) :
    Calls Try.prog 23 #[vb, .slice (some ⟨g, 0, none⟩) n cap] w fun e w' => ∃ v', e = .returned v' ∧ w'.ownsRow w.heap.size 38 2 v' (foldS bl l).length (cells2 (foldS bl l)) ∧ Below w.heap.size w w' := by
  have H29 := last_some g n cap T R O w (by omega) hc
  have HR2 := hide hr2
  clear hr2
  go_enter Try.func23, Try.ntmps23
  go_wp2_with fail
  refine H29.mono ?_
  clear H29
  rintro e w1 ⟨z, rfl, hz, hb1⟩
  have hzr : z = -1 := hz.no HR2.out
  clear hz HR2
  subst hzr
  have H30 := clone2_any w.heap.size vb bl w1 hb1.size (by omega) (hb.out.below hb1)
  go_wp2_with fail
  refine H30.mono ?_
  clear H30
  rintro e w2 ⟨v0, rfl, h1, h2⟩
  have HV := hide h1
  have hb2 : Below w.heap.size w w2 := hb1.trans (h2.mono hb1.size)
  clear h1 h2
  go_wp2_with fail
  go_loopw [5, 20] (fun v i wr => ∃ k : Nat, k ≤ n ∧ i = .int .i64 k ∧ wr.ownsRow w.heap.size 38 2 v (foldAt bl l k).length (cells2 (foldAt bl l k)) ∧ Below w.heap.size w wr) (fun _ i _ => n - (intOf i).toNat)
  case atStart => exact ⟨0, Nat.zero_le _, rfl, HV.out, hb2⟩
  case round =>
    obtain ⟨k, hk, rfl, hown, hbk⟩ := hrel
    have HO := hide hown
    clear hown HV hb2
    by_cases hlt : k < n
    · have cc : ∀ j u, j < 11 → (swC (T k, R k, O k))[j]? = some u → wr.cell? ⟨g, k * 11 + j, none⟩ = some u := fun j u hj hu => cell_later hbk (hc.out k j u (by omega) hj hu)
      have e0 : wr.cell? ⟨g, k * 11, none⟩ = some (.int .i64 (T k)) := cc 0 _ (by omega) rfl
      have e1 : wr.cell? ⟨g, k * 11 + 1, none⟩ = some (.string (R k)) := cc 1 _ (by omega) rfl
      have e2 : wr.cell? ⟨g, k * 11 + 2, none⟩ = some (.int .u8 (O k)) := cc 2 _ (by omega) rfl
      have e3 : wr.cell? ⟨g, k * 11 + 3, none⟩ = some (.string ⟨#[]⟩) := cc 3 _ (by omega) rfl
      have e4 : wr.cell? ⟨g, k * 11 + 4, none⟩ = some (.string ⟨#[]⟩) := cc 4 _ (by omega) rfl
      have e5 : wr.cell? ⟨g, k * 11 + 5, none⟩ = some (.int .i64 0) := cc 5 _ (by omega) rfl
      have e6 : wr.cell? ⟨g, k * 11 + 6, none⟩ = some (.pointer none) := cc 6 _ (by omega) rfl
      have e7 : wr.cell? ⟨g, k * 11 + 7, none⟩ = some (.int .i64 0) := cc 7 _ (by omega) rfl
      have e8 : wr.cell? ⟨g, k * 11 + 8, none⟩ = some (.bool false) := cc 8 _ (by omega) rfl
      have e9 : wr.cell? ⟨g, k * 11 + 9, none⟩ = some (.int .i64 0) := cc 9 _ (by omega) rfl
      have e10 : wr.cell? ⟨g, k * 11 + 10, none⟩ = some (.int .i64 0) := cc 10 _ (by omega) rfl
      clear cc
      have hlen : (foldAt bl l k).length ≤ 65536 := by
        have := foldS_length bl (l.take k)
        unfold foldAt
        rw [List.length_take] at this
        have := hl.out
        omega
      go_wp2_with fail
      have H31 := decide_lit w.heap.size u5 (foldAt bl l k) (T (k)) (R (k)) (wr.alloc (.cells #[.int .i64 (T (k)), .string (R (k)), .int .u8 (O (k)), .string ⟨#[]⟩, .string ⟨#[]⟩, .int .i64 0, .pointer none, .int .i64 0, .bool false, .int .i64 0, .int .i64 0] 57)) (Nat.le_trans hbk.size (by simp)) hlen (HO.out.alloc _)
      refine H31.mono ?_
      clear H31
      rintro e w2 ⟨v', rfl, h1, h2⟩
      have H1 := hide (foldAt_step bl l k _ _ _ (by rw [hl.out]; exact hlt) (hT.out k hlt) h1)
      have hb2 : Below w.heap.size w w2 := (hbk.alloc hbk.size _).grown h2 (Nat.le_trans hbk.size (by simp)) (fun j hj => (HO.out.lt j hj).1)
      clear h1 h2 HO hlen e0 e1 e2 e3 e4 e5 e6 e7 e8 e9 e10
      go_wp2_with fail
      go_roundw
      case rel => exact ⟨k + 1, by omega, by go_num, H1.out, hb2⟩
      case measure => simp [intOf]; omega
    · obtain rfl : n = k := by omega
      go_wp2_with fail
      go_ret
      have e : foldAt bl l (n) = foldS bl l := by
        unfold foldAt
        rw [List.take_of_length_le (Nat.le_of_eq hl.out)]
      rw [e] at HO
      exact ⟨_, rfl, HO.out, hbk⟩
end Go.Proofs.Qxb6617231a

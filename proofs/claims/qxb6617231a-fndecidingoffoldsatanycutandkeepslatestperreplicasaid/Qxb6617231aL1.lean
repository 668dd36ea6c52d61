import Derived.WalkKit
import Derived.WalkSpells
import Derived.Deep.OwnRows
namespace Go.Proofs.Qxb6617231a
open Go.RowKit

theorem hide {p : Prop} (h : p) : Hid p := h

/-- The slice value v, of n elements of 'size' cells, reads as the cells xs. -/
def Rd (w : World) (size : Nat) (v : Value) (n : Nat) (xs : List Value) : Prop :=
  xs.length = n * size ∧ ((v = .slice none 0 0 ∧ n = 0) ∨
    ∃ g cap, v = .slice (some ⟨g, 0, none⟩) n cap ∧ g < w.heap.size ∧ n ≤ cap ∧ ∀ j u, xs[j]? = some u → w.cell? ⟨g, j, none⟩ = some u)

theorem add0 (g j : Nat) : (⟨g, 0, none⟩ : Addr).add j = ⟨g, j, none⟩ := by rw [Addr.add_lit]; simp

theorem Rd.of_own {w : World} {base : Nat} {e : TypeId} {size : Nat} {v : Value} {n : Nat} {xs : List Value} (h : w.ownsRow base e size v n xs) : Rd w size v n xs := by
  refine ⟨h.1, ?_⟩
  rcases h.2 with h0 | ⟨g, cap, cur, rfl, hb, hg, hnc, hcm, hcs, htake⟩
  · exact .inl h0
  · refine .inr ⟨g, cap, rfl, (Array.getElem?_eq_some_iff.1 hg).1, hnc, fun j u hu => ?_⟩
    have := h.cells (g := g) rfl j u hu
    rwa [add0] at this

theorem Rd.below {w w' : World} {size : Nat} {v : Value} {n : Nat} {xs : List Value} (h : Rd w size v n xs) (hb : Below w.heap.size w w') : Rd w' size v n xs := by
  refine ⟨h.1, ?_⟩
  rcases h.2 with h0 | ⟨g, cap, rfl, hg, hnc, hc⟩
  · exact .inl h0
  · exact .inr ⟨g, cap, rfl, Nat.lt_of_lt_of_le hg hb.size, hnc, fun j u hu => (hb.cell (p := ⟨g, j, none⟩) hg).trans (hc j u hu)⟩

/-- a cell below B, read in a later world -/
theorem cellB {B : Nat} {w w' : World} (hb : Below B w w') {g o : Nat} {v : Value} (hg : g < B) (h : w.cell? ⟨g, o, none⟩ = some v) : w'.cell? ⟨g, o, none⟩ = some v := (hb.cell (p := ⟨g, o, none⟩) hg).trans h

theorem alloc0 {B : Nat} {a w : World} (hB : B ≤ a.heap.size) (h : Below B a w) (o : Obj) : Below B a (w.alloc o) := h.alloc (Nat.le_trans hB h.size) o

theorem setCell0 {B b o : Nat} {a w : World} (hB : B ≤ b) (h : Below B a w) (u : Value) : Below B a (w.setCell ⟨b, o, none⟩ u) := h.setCell hB u

theorem ownsRow_base {w : World} {B B' : Nat} {e : TypeId} {size : Nat} {v : Value} {n : Nat} {xs : List Value} (h : w.ownsRow B e size v n xs) (hB : B' ≤ B) : w.ownsRow B' e size v n xs := by
  refine ⟨h.1, ?_⟩
  rcases h.2 with h0 | ⟨g, cap, cur, a, b, c⟩
  · exact .inl h0
  · exact .inr ⟨g, cap, cur, a, Nat.le_trans hB b, c⟩

theorem news_alloc2 (w : World) (cs : List Value) (e : TypeId) : ∀ j u, cs[j]? = some u → (w.alloc (.cells cs.toArray e)).cell? ((⟨w.heap.size, 0, none⟩ : Addr).add j) = some u := by
  intro j u hu
  rw [add0, cell_of_row _ _ _ _ _ _ (heap_alloc_new w _)]
  simpa using hu

theorem grownBy_trans {a b c : World} {row row' : Option Nat} (h : a.grownBy b row) (k : b.grownBy c row') (hr : ∀ i, row' = some i → i < a.heap.size → row = some i) : a.grownBy c row :=
  ⟨k.os.trans h.os, k.tape.trans h.tape, k.output.trans h.output, Nat.le_trans h.size k.size, fun i hi hne => (k.block i (Nat.lt_of_lt_of_le hi h.size) (fun e => hne (hr i e.symm hi).symm)).trans (h.block i hi hne)⟩

theorem grownBy_below {a b : World} (h : Below a.heap.size a b) (row : Option Nat) : a.grownBy b row := ⟨h.os, h.tape, h.output, h.size, fun i hi _ => h.block i hi⟩
theorem below_grownBy {a b : World} (h : a.grownBy b none) : Below a.heap.size a b := ⟨h.os, h.tape, h.output, h.size, fun i hi => h.block i hi (by simp)⟩

/-- 'append' onto a slice that the call itself made: what 'run_append_own' says, AND the old value still reads as it did. -/
theorem run_append_keep {P : Program} (w : World) (base : Nat) (t ty e : TypeId) (i : TypeInfo) (z : Value) (size bytes : Nat) (ht : P.underlying t = some (.slice e)) (hi : P.info? e = some i) (hz : i.zero = some z)
    (hsize : i.size = size) (hby : i.bytes = bytes) (hzs : z.cells.size = size) (hsz : 0 < size)
    (v : Value) (n : Nat) (xs : List Value) (hown : w.ownsRow base e size v n xs)
    (a : Addr) (m c : Nat) (news : List Value) (hl : news.length = m * size) (hnews : ∀ j u, news[j]? = some u → w.cell? (a.add j) = some u) (h1 : ∀ u ∈ news, u.oneCell' = true)
    (h63 : n + m ≤ maxLen) (hbytes : (n + m) * bytes ≤ 140737488355328) (hbase : base ≤ w.heap.size) :
    ∃ v' w', (Builtin.append_ #[t, t] ty #[v, .slice (some a) m c]).run P w = .ok v' w' ∧ w'.ownsRow base e size v' (n + m) (xs ++ news) ∧ w.grownBy w' v.ownBlock ∧
      (v' = .slice none 0 0 ↔ v = .slice none 0 0 ∧ m = 0) ∧ Rd w' size v n xs := by
  obtain ⟨v', w', hr, ho, hg, hn⟩ := run_append_own (P := P) w base t ty e i z size bytes ht hi hz hsize hby hzs hsz v n xs hown a m c news hl hnews h1 h63 hbytes hbase
  refine ⟨v', w', hr, ho, hg, hn, hown.1, ?_⟩
  subst hsize
  subst hby
  have hsmall : n + m ≤ 9223372036854775807 := by simp only [maxLen] at h63; omega
  rcases hown.2 with ⟨rfl, rfl⟩ | ⟨g, cap, cur, rfl, hbg, hgg, hnc, hcm, hcs, htake⟩
  · exact .inl ⟨rfl, rfl⟩
  · have hlt := (Array.getElem?_eq_some_iff.1 hgg).1
    refine .inr ⟨g, cap, rfl, Nat.lt_of_lt_of_le hlt hg.size, hnc, ?_⟩
    by_cases hroom : n + m ≤ cap
    · have hfit : n * i.size + news.length ≤ cur.size := by rw [hl, hcs, ← Nat.add_mul]; exact Nat.mul_le_mul_right _ hroom
      have hr' := run_append_room (P := P) w t ty e i ht hi g n cap cur hgg a m c news hl hnews h1 hroom hfit
      rw [hr] at hr'
      injection hr' with hv hw
      subst hv
      intro j u hu
      have := ho.cells (g := g) rfl j u (by rw [List.getElem?_append_left (List.getElem?_eq_some_iff.1 hu).1]; exact hu)
      rwa [add0] at this
    · have holds : ∀ j u, xs[j]? = some u → w.cell? ((⟨g, 0, none⟩ : Addr).add j) = some u := hown.cells (g := g) rfl
      have hr' := run_append_grow (P := P) w t ty e i z ht hi hz ⟨g, 0, none⟩ n cap xs hown.1 holds a m c news hl hnews (by omega) (by omega) (growslice_fits (by omega) hbytes)
      rw [hr] at hr'
      injection hr' with hv hw
      subst hw
      intro j u hu
      have := holds j u hu
      rw [add0] at this
      rw [World.cell?_alloc_lt _ _ _ (by exact hlt)]
      exact this

theorem wpList_append_keep {P : Program} (w : World) {ops : Array Oper} {rest : List Oper} {o : Oper} {a : Act} {Q : Exit → Act → World → Prop} (hgd : o.guard = none) (s x : Operand) (t : TypeId)
    (ho : o.op = .call { callee := .builtin .append, args := #[s, x], argTypes := #[t, t] })
    (base : Nat) (e : TypeId) (i : TypeInfo) (z : Value) (size bytes : Nat) (ht : P.underlying t = some (.slice e)) (hi : P.info? e = some i) (hz : i.zero = some z)
    (hsize : i.size = size) (hby : i.bytes = bytes) (hzs : z.cells.size = size) (hsz : 0 < size)
    (v : Value) (n : Nat) (xs : List Value) (hs : a.eval s = v) (hown : w.ownsRow base e size v n xs)
    (ad : Addr) (m c : Nat) (news : List Value) (hx : a.eval x = .slice (some ad) m c) (hl : news.length = m * size) (hnews : ∀ j u, news[j]? = some u → w.cell? (ad.add j) = some u) (h1 : ∀ u ∈ news, u.oneCell' = true)
    (h63 : n + m ≤ maxLen) (hbytes : (n + m) * bytes ≤ 140737488355328) (hbase : base ≤ w.heap.size)
    (h : ∀ v' w', w'.ownsRow base e size v' (n + m) (xs ++ news) → w.grownBy w' v.ownBlock → Rd w' size v n xs → wpList P ops Q rest (a.put o.dst v') w') : wpList P ops Q (o :: rest) a w := by
  refine wpList_plain hgd fun K hK => ?_
  obtain ⟨v', w', hr, h2, h3, _, h4⟩ := run_append_keep (P := P) w base t o.type e i z size bytes ht hi hz hsize hby hzs hsz v n xs hown ad m c news hl hnews h1 h63 hbytes hbase
  unfold Oper.wp execOp
  simp only [ho, resolve, invoke, builtin, Sem.run_bind, Sem.run_pure, Result.andThen_ok, List.map_toArray, List.map_cons, List.map_nil, hs, hx, hr]
  exact hK _ _ (h v' w' h2 h3 h4)

/-- block b: a row of N cells, of which the first K are as listed -/
def Filled (w : World) (b N K : Nat) (e : TypeId) (xs : List Value) : Prop :=
  ∃ f, w.rowIs b e N f ∧ ∀ j u, j < K → xs[j]? = some u → f j = u

section
variable {w : World} {b N K : Nat} {e : TypeId} {xs : List Value}
theorem Filled.alloc (h : Filled w b N K e xs) (o : Obj) : Filled (w.alloc o) b N K e xs := by
  obtain ⟨f, hr, hf⟩ := h
  exact ⟨f, hr.alloc o, hf⟩
theorem Filled.drew (h : Filled w b N K e xs) : Filled w.drew b N K e xs := h
theorem Filled.lt (h : Filled w b N K e xs) : b < w.heap.size := by
  obtain ⟨f, hr, _⟩ := h
  exact hr.lt
theorem Filled.frozen (h : Filled w b N K e xs) (j : Nat) : w.frozen? ⟨b, j, none⟩ = false := by
  obtain ⟨f, hr, _⟩ := h
  exact hr.frozen j
theorem Filled.held (h : Filled w b N K e xs) {j : Nat} (hj : j < N) : ∃ c, w.cell? ⟨b, j, none⟩ = some c := by
  obtain ⟨f, hr, _⟩ := h
  exact ⟨f j, hr.cell hj⟩
theorem Filled.set (h : Filled w b N K e xs) {v : Value} (hv : xs[K]? = some v) : Filled (w.setCell ⟨b, K, none⟩ v) b N (K + 1) e xs := by
  obtain ⟨f, hr, hf⟩ := h
  refine ⟨_, hr.set K v, fun j u hj hu => ?_⟩
  by_cases hjk : j = K
  · subst hjk
    rw [hv] at hu
    simpa using hu
  · simpa [hjk] using hf j u (by omega) hu
theorem Filled.below {w' : World} (h : Filled w b N K e xs) {B : Nat} (hb : Below B w w') (hB : b < B) : Filled w' b N K e xs := by
  obtain ⟨f, hr, hf⟩ := h
  exact ⟨f, hr.of_block (hb.block b hB), hf⟩
theorem Filled.cell (h : Filled w b N K e xs) {j : Nat} {u : Value} (hj : j < K) (hN : j < N) (hu : xs[j]? = .some u) : w.cell? ⟨b, j, none⟩ = .some u := by
  obtain ⟨f, hr, hf⟩ := h
  rw [hr.cell hN, hf j u hj hu]
/-- a new row that 'make' has laid -/
theorem Filled.made {base n size : Nat} {zs : List Value} (h : w.ownsRow base e size (.slice (.some ⟨b, 0, none⟩) n n) n zs) (xs : List Value) : Filled w b (n * size) 0 e xs := by
  rcases h.2 with ⟨h, _⟩ | ⟨g', cap', cur, e1, _, hh, _, _, hs, _⟩
  · cases h
  · injection e1 with e2 e3 e4
    injection e2 with e2
    injection e2 with e2
    subst e2 e4
    exact ⟨fun i => cur.getD i (.bool false), ⟨cur, hh, hs, fun i hi => by simp [Array.getD, hs, hi]⟩, fun j u hj => absurd hj (by omega)⟩
/-- a row that is filled reads as listed -/
theorem Filled.rd {n size : Nat} (h : Filled w b (n * size) (n * size) e xs) (hl : xs.length = n * size) : Rd w size (.slice (.some ⟨b, 0, none⟩) n n) n xs :=
  ⟨hl, .inr ⟨b, n, rfl, h.lt, Nat.le_refl _, fun j u hu => by
    have hj := (List.getElem?_eq_some_iff.1 hu).1
    exact h.cell (by omega) (by omega) hu⟩⟩
end

/-- eleven stores, one behind the other -/
theorem Filled.run11 {w : World} {b N K : Nat} {e : TypeId} {xs : List Value} (h : Filled w b N K e xs) {v0 v1 v2 v3 v4 v5 v6 v7 v8 v9 v10 : Value} (h0 : xs[K]? = some v0) (h1 : xs[K + 1]? = some v1) (h2 : xs[K + 2]? = some v2) (h3 : xs[K + 3]? = some v3) (h4 : xs[K + 4]? = some v4) (h5 : xs[K + 5]? = some v5) (h6 : xs[K + 6]? = some v6) (h7 : xs[K + 7]? = some v7) (h8 : xs[K + 8]? = some v8) (h9 : xs[K + 9]? = some v9) (h10 : xs[K + 10]? = some v10) :
    Filled (((((((((((w.setCell ⟨b, K, none⟩ v0).setCell ⟨b, K + 1, none⟩ v1).setCell ⟨b, K + 2, none⟩ v2).setCell ⟨b, K + 3, none⟩ v3).setCell ⟨b, K + 4, none⟩ v4).setCell ⟨b, K + 5, none⟩ v5).setCell ⟨b, K + 6, none⟩ v6).setCell ⟨b, K + 7, none⟩ v7).setCell ⟨b, K + 8, none⟩ v8).setCell ⟨b, K + 9, none⟩ v9).setCell ⟨b, K + 10, none⟩ v10) b N (K + 11) e xs := (((((((((((h.set h0).set h1).set h2).set h3).set h4).set h5).set h6).set h7).set h8).set h9).set h10)

theorem below11 {B b K : Nat} {a w : World} (hB : B ≤ b) (h : Below B a w) (v0 v1 v2 v3 v4 v5 v6 v7 v8 v9 v10 : Value) : Below B a (((((((((((w.setCell ⟨b, K, none⟩ v0).setCell ⟨b, K + 1, none⟩ v1).setCell ⟨b, K + 2, none⟩ v2).setCell ⟨b, K + 3, none⟩ v3).setCell ⟨b, K + 4, none⟩ v4).setCell ⟨b, K + 5, none⟩ v5).setCell ⟨b, K + 6, none⟩ v6).setCell ⟨b, K + 7, none⟩ v7).setCell ⟨b, K + 8, none⟩ v8).setCell ⟨b, K + 9, none⟩ v9).setCell ⟨b, K + 10, none⟩ v10) := (setCell0 hB (setCell0 hB (setCell0 hB (setCell0 hB (setCell0 hB (setCell0 hB (setCell0 hB (setCell0 hB (setCell0 hB (setCell0 hB (setCell0 hB h _) _) _) _) _) _) _) _) _) _) _)

/-- marks, places, rows: three numbers each -/
def cells3 (ms : List (Int × Int × Int)) : List Value := ms.flatMap fun m => [.int .i64 m.1, .int .i64 m.2.1, .int .i64 m.2.2]

theorem cells3_length (ms : List (Int × Int × Int)) : (cells3 ms).length = ms.length * 3 := by
  induction ms with
  | nil => rfl
  | cons m ms ih => simp only [cells3, List.flatMap_cons, List.length_append, List.length_cons, List.length_nil] at ih ⊢; omega

theorem cells3_append (a b : List (Int × Int × Int)) : cells3 (a ++ b) = cells3 a ++ cells3 b := by simp [cells3]

theorem cells3_get (ms : List (Int × Int × Int)) : ∀ i, i < ms.length → (cells3 ms)[i * 3]? = some (.int .i64 (ms.getD i (0, 0, 0)).1) ∧ (cells3 ms)[i * 3 + 1]? = some (.int .i64 (ms.getD i (0, 0, 0)).2.1) ∧ (cells3 ms)[i * 3 + 2]? = some (.int .i64 (ms.getD i (0, 0, 0)).2.2) := by
  induction ms with
  | nil => intro i hi; simp at hi
  | cons m ms ih =>
    intro i hi
    cases i with
    | zero => simp [cells3]
    | succ i =>
      have := ih i (by simpa using hi)
      have e0 : (i + 1) * 3 = i * 3 + 3 := by omega
      simp only [cells3, List.flatMap_cons, List.getD_cons_succ] at this ⊢
      rw [e0]
      refine ⟨?_, ?_, ?_⟩
      · rw [List.getElem?_append_right (by simp)]; simpa using this.1
      · rw [List.getElem?_append_right (by simp)]; simpa [show i * 3 + 3 + 1 - 3 = i * 3 + 1 by omega] using this.2.1
      · rw [List.getElem?_append_right (by simp)]; simpa [show i * 3 + 3 + 2 - 3 = i * 3 + 2 by omega] using this.2.2

theorem cells3_oneCell (ms : List (Int × Int × Int)) : ∀ u ∈ cells3 ms, u.oneCell' = true := by
  intro u hu
  simp only [cells3, List.mem_flatMap] at hu
  obtain ⟨m, _, hm⟩ := hu
  simp at hm
  rcases hm with rfl | rfl | rfl <;> rfl

/-- a slice of triples, read -/
theorem Rd.form3 {w : World} {v : Value} {ms : List (Int × Int × Int)} (h : Rd w 3 v ms.length (cells3 ms)) :
    (v = .slice none 0 0 ∧ ms = []) ∨ ∃ g cap, v = .slice (some ⟨g, 0, none⟩) ms.length cap ∧ g < w.heap.size ∧ ms.length ≤ cap ∧
      ∀ i, i < ms.length → w.cell? ⟨g, i * 3, none⟩ = some (.int .i64 (ms.getD i (0, 0, 0)).1) ∧ w.cell? ⟨g, i * 3 + 1, none⟩ = some (.int .i64 (ms.getD i (0, 0, 0)).2.1) ∧ w.cell? ⟨g, i * 3 + 2, none⟩ = some (.int .i64 (ms.getD i (0, 0, 0)).2.2) := by
  rcases h.2 with ⟨h0, h1⟩ | ⟨g, cap, rfl, hg, hnc, hc⟩
  · exact .inl ⟨h0, List.eq_nil_of_length_eq_zero h1⟩
  · refine .inr ⟨g, cap, rfl, hg, hnc, fun i hi => ?_⟩
    obtain ⟨a, b, c⟩ := cells3_get ms i hi
    exact ⟨hc _ _ a, hc _ _ b, hc _ _ c⟩
end Go.Proofs.Qxb6617231a

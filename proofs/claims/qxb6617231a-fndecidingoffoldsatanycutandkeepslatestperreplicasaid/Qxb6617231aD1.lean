import Derived.Test.Qxb6617231aL1
import Derived.Lib.Strings
namespace Go.Proofs.Qxb6617231a
open Go.RowKit
/-! ### Stamps and writes as plain data -/

/-- Go's '==' on strings -/
def eqs (a b : ByteArray) : Bool := a.toList == b.toList
theorem eqs_iff (a b : ByteArray) : eqs a b = true ↔ a = b := by
  unfold eqs
  rw [beq_iff_eq, Lib.toList_data, Lib.toList_data]
  constructor
  · intro h
    exact ByteArray.ext (Array.toList_inj.1 h)
  · rintro rfl; rfl
theorem eqs_self (a : ByteArray) : eqs a a = true := (eqs_iff a a).2 rfl
theorem eqs_false (a b : ByteArray) : eqs a b = false ↔ a ≠ b := by
  rw [← Bool.not_eq_true, eqs_iff]

/-- one of a row's elements, 'k' cells each -/
theorem flat_get {α : Type} (f : α → List Value) (k : Nat) (hk : ∀ a, (f a).length = k) (d : α) (l : List α) : ∀ i j, i < l.length → j < k → (l.flatMap f)[i * k + j]? = (f (l.getD i d))[j]? := by
  induction l with
  | nil => intro i j hi; simp at hi
  | cons a l ih =>
    intro i j hi hj
    cases i with
    | zero =>
      simp only [List.flatMap_cons, Nat.zero_mul, Nat.zero_add, List.getD_cons_zero]
      rw [List.getElem?_append_left (by rw [hk]; exact hj)]
    | succ i =>
      simp only [List.flatMap_cons, List.getD_cons_succ]
      rw [List.getElem?_append_right (by rw [hk, Nat.succ_mul]; omega), hk, show (i + 1) * k + j - k = i * k + j by rw [Nat.succ_mul]; omega]
      exact ih i j (by simpa using hi) hj

theorem flat_length {α : Type} (f : α → List Value) (k : Nat) (hk : ∀ a, (f a).length = k) (l : List α) : (l.flatMap f).length = l.length * k := by
  induction l with
  | nil => simp
  | cons a l ih => simp only [List.flatMap_cons, List.length_append, ih, hk, List.length_cons, Nat.succ_mul]; omega

/-- a stamp's cells -/
def stC (s : Int × ByteArray) : List Value := [.int .i64 s.1, .string s.2]
/-- a law's write: its cells -/
def wrC (s : Int × ByteArray × Int) : List Value := [.int .i64 s.1, .string s.2.1, .int .u8 s.2.2]
/-- the store's write: its cells -/
def swC (s : Int × ByteArray × Int) : List Value := [.int .i64 s.1, .string s.2.1, .int .u8 s.2.2, .string ⟨#[]⟩, .string ⟨#[]⟩, .int .i64 0, .pointer none, .int .i64 0, .bool false, .int .i64 0, .int .i64 0]

def cells2 (l : List (Int × ByteArray)) : List Value := l.flatMap stC
def cellsW (l : List (Int × ByteArray × Int)) : List Value := l.flatMap wrC
def cellsS (l : List (Int × ByteArray × Int)) : List Value := l.flatMap swC

/-- nothing -/
def st0 : Int × ByteArray := (0, ByteArray.empty)
def wr0 : Int × ByteArray × Int := (0, ByteArray.empty, 0)

theorem cells2_length (l : List (Int × ByteArray)) : (cells2 l).length = l.length * 2 := flat_length stC 2 (fun _ => rfl) l
theorem cellsW_length (l : List (Int × ByteArray × Int)) : (cellsW l).length = l.length * 3 := flat_length wrC 3 (fun _ => rfl) l
theorem cellsS_length (l : List (Int × ByteArray × Int)) : (cellsS l).length = l.length * 11 := flat_length swC 11 (fun _ => rfl) l

theorem cells2_oneCell (l : List (Int × ByteArray)) : ∀ u ∈ cells2 l, u.oneCell' = true := by
  intro u hu
  simp only [cells2, List.mem_flatMap, stC] at hu
  obtain ⟨m, _, hm⟩ := hu
  simp at hm
  rcases hm with rfl | rfl <;> rfl
theorem cellsW_oneCell (l : List (Int × ByteArray × Int)) : ∀ u ∈ cellsW l, u.oneCell' = true := by
  intro u hu
  simp only [cellsW, List.mem_flatMap, wrC] at hu
  obtain ⟨m, _, hm⟩ := hu
  simp at hm
  rcases hm with rfl | rfl | rfl <;> rfl

/-- a row of k-cell elements, read -/
theorem Rd.formK {α : Type} {f : α → List Value} {k : Nat} (hk : ∀ a, (f a).length = k) (d : α) {w : World} {v : Value} {l : List α} (h : Rd w k v l.length (l.flatMap f)) :
    (v = .slice none 0 0 ∧ l = []) ∨ ∃ g cap, v = .slice (some ⟨g, 0, none⟩) l.length cap ∧ g < w.heap.size ∧ l.length ≤ cap ∧
      ∀ i j u, i < l.length → j < k → (f (l.getD i d))[j]? = some u → w.cell? ⟨g, i * k + j, none⟩ = some u := by
  rcases h.2 with ⟨h0, h1⟩ | ⟨g, cap, rfl, hg, hnc, hc⟩
  · exact .inl ⟨h0, List.eq_nil_of_length_eq_zero h1⟩
  · exact .inr ⟨g, cap, rfl, hg, hnc, fun i j u hi hj hu => hc _ _ (by rw [flat_get f k hk d l i j hi hj]; exact hu)⟩

/-- stamps in memory, anywhere -/
def StIn (w : World) (ao : Option Addr) (n : Nat) (l : List (Int × ByteArray)) : Prop :=
  l.length = n ∧ ∀ i, i < n → ∃ b off, ao = some ⟨b, off, none⟩ ∧ w.cell? ⟨b, off + i * 2, none⟩ = some (.int .i64 (l.getD i st0).1) ∧ w.cell? ⟨b, off + i * 2 + 1, none⟩ = some (.string (l.getD i st0).2)
/-- writes in memory, anywhere -/
def WrIn (w : World) (ao : Option Addr) (n : Nat) (l : List (Int × ByteArray × Int)) : Prop :=
  l.length = n ∧ ∀ i, i < n → ∃ b off, ao = some ⟨b, off, none⟩ ∧ w.cell? ⟨b, off + i * 3, none⟩ = some (.int .i64 (l.getD i wr0).1) ∧ w.cell? ⟨b, off + i * 3 + 1, none⟩ = some (.string (l.getD i wr0).2.1) ∧ w.cell? ⟨b, off + i * 3 + 2, none⟩ = some (.int .u8 (l.getD i wr0).2.2)

theorem StIn.below {w w' : World} {ao : Option Addr} {n : Nat} {l : List (Int × ByteArray)} (h : StIn w ao n l) (hb : Below w.heap.size w w') : StIn w' ao n l :=
  ⟨h.1, fun i hi => by
    obtain ⟨b, off, e, h0, h1⟩ := h.2 i hi
    exact ⟨b, off, e, cell_later hb h0, cell_later hb h1⟩⟩
theorem WrIn.below {w w' : World} {ao : Option Addr} {n : Nat} {l : List (Int × ByteArray × Int)} (h : WrIn w ao n l) (hb : Below w.heap.size w w') : WrIn w' ao n l :=
  ⟨h.1, fun i hi => by
    obtain ⟨b, off, e, h0, h1, h2⟩ := h.2 i hi
    exact ⟨b, off, e, cell_later hb h0, cell_later hb h1, cell_later hb h2⟩⟩

/-! ### What decide, decidingOf reckon -/
def decideL : List (Int × ByteArray) → Int × ByteArray → List (Int × ByteArray)
  | [], s => [s]
  | d :: l, s => if eqs d.2 s.2 = true then (if d.1 < s.1 then s :: l else d :: l) else d :: decideL l s

theorem decideL_new (l : List (Int × ByteArray)) (s : Int × ByteArray) (h : ∀ i, i < l.length → eqs (l.getD i st0).2 s.2 = false) : decideL l s = l ++ [s] := by
  induction l with
  | nil => rfl
  | cons d l ih =>
    have h0 := h 0 (by simp)
    simp only [List.getD_cons_zero] at h0
    rw [decideL, if_neg (by simp [h0]), ih (fun i hi => by have := h (i + 1) (by simpa using hi); simpa using this)]
    rfl

theorem decideL_at (l : List (Int × ByteArray)) (s : Int × ByteArray) (i : Nat) (hi : i < l.length) (h : ∀ j, j < i → eqs (l.getD j st0).2 s.2 = false) (he : eqs (l.getD i st0).2 s.2 = true) :
    decideL l s = if (l.getD i st0).1 < s.1 then l.set i s else l := by
  induction l generalizing i with
  | nil => simp at hi
  | cons d l ih =>
    cases i with
    | zero =>
      simp only [List.getD_cons_zero] at he ⊢
      rw [decideL, if_pos he]
      rfl
    | succ i =>
      have h0 := h 0 (by omega)
      simp only [List.getD_cons_zero] at h0
      rw [decideL, if_neg (by simp [h0]), ih i (by simpa using hi) (fun j hj => by have := h (j + 1) (by omega); simpa using this) (by simpa using he)]
      simp only [List.getD_cons_succ, List.set_cons_succ]
      split <;> rfl

/-- a put or a delete -/
def repl (s : Int × ByteArray × Int) : Bool := s.2.2 == 1 || s.2.2 == 4
def stampOf (s : Int × ByteArray × Int) : Int × ByteArray := (s.1, s.2.1)
def foldS (acc : List (Int × ByteArray)) (l : List (Int × ByteArray × Int)) : List (Int × ByteArray) := l.foldl (fun a s => decideL a (stampOf s)) acc

/-- r is the place of the last put or delete, or there is none -/
def LastAt (l : List (Int × ByteArray × Int)) (r : Nat) : Prop := r < l.length ∧ repl (l.getD r wr0) = true ∧ ∀ j, r < j → j < l.length → repl (l.getD j wr0) = false
def NoneRepl (l : List (Int × ByteArray × Int)) : Prop := ∀ j, j < l.length → repl (l.getD j wr0) = false
end Go.Proofs.Qxb6617231a

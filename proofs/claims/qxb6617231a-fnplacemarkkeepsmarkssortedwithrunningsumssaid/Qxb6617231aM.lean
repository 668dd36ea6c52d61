import Derived.WalkKit
import Derived.Test.Qxb6617231aP5
namespace Go.Proofs.Qxb6617231a
open Go.RowKit
/-! ### The plain law: no Go in sight. -/

/-- x put into l at place r -/
def insAt {α : Type} (r : Nat) (x : α) (l : List α) : List α := l.take r ++ (x :: l.drop r)

theorem insAt_length {α : Type} (r : Nat) (x : α) (l : List α) (h : r ≤ l.length) : (insAt r x l).length = l.length + 1 := by
  simp [insAt]; omega

theorem insAt_map {α β : Type} (f : α → β) (r : Nat) (x : α) (l : List α) : (insAt r x l).map f = insAt r (f x) (l.map f) := by
  simp [insAt, List.map_take, List.map_drop]

theorem insAt_getD {α : Type} (r : Nat) (x d : α) (l : List α) (h : r ≤ l.length) (i : Nat) : (insAt r x l).getD i d = if i < r then l.getD i d else if i = r then x else l.getD (i - 1) d := by
  unfold insAt
  simp only [List.getD_eq_getElem?_getD]
  by_cases h1 : i < r
  · rw [if_pos h1, List.getElem?_append_left (by simp; omega), List.getElem?_take_of_lt h1]
  · rw [if_neg h1, List.getElem?_append_right (by simp; omega)]
    simp only [List.length_take, Nat.min_eq_left h]
    by_cases h2 : i = r
    · subst h2; simp
    · rw [if_neg h2, show i - r = (i - 1 - r) + 1 by omega, List.getElem?_cons_succ, List.getElem?_drop, show r + (i - 1 - r) = i - 1 by omega]

/-- how many at the head of l are not later than t -/
def posOf (T : Nat → Int) (l : List Nat) (t : Int) : Nat := (l.takeWhile fun p => decide (T p ≤ t)).length

theorem posOf_eq (T : Nat → Int) (l : List Nat) (t : Int) (r : Nat) (hr : r ≤ l.length) (h1 : ∀ i, i < r → T (l.getD i 0) ≤ t) (h2 : ∀ i, r ≤ i → i < l.length → t < T (l.getD i 0)) : posOf T l t = r := by
  induction l generalizing r with
  | nil => simp at hr; subst hr; rfl
  | cons a l ih =>
    cases r with
    | zero =>
      have := h2 0 (Nat.le_refl _) (by simp)
      simp at this
      simp [posOf, show ¬ T a ≤ t by omega]
    | succ r =>
      have h0 := h1 0 (by omega)
      simp at h0
      have := ih r (by simpa using hr) (fun i hi => by have := h1 (i + 1) (by omega); simpa using this) (fun i hi hl => by have := h2 (i + 1) (by omega) (by simpa using hl); simpa using this)
      simp only [posOf, List.takeWhile_cons] at this ⊢
      simp [h0, this]

/-- the first k places, in order of time, equal times as they came -/
def ordAt (T : Nat → Int) : Nat → List Nat
  | 0 => []
  | k + 1 => insAt (posOf T (ordAt T k) (T k)) k (ordAt T k)

theorem posOf_le (T : Nat → Int) (l : List Nat) (t : Int) : posOf T l t ≤ l.length := (List.takeWhile_prefix _).length_le

theorem ordAt_length (T : Nat → Int) (k : Nat) : (ordAt T k).length = k := by
  induction k with
  | zero => rfl
  | succ k ih => rw [ordAt, insAt_length _ _ _ (posOf_le _ _ _), ih]

theorem ordAt_lt (T : Nat → Int) (k : Nat) : ∀ p ∈ ordAt T k, p < k := by
  induction k with
  | zero => intro p hp; simp [ordAt] at hp
  | succ k ih =>
    intro p hp
    simp only [ordAt, insAt, List.mem_append, List.mem_cons] at hp
    rcases hp with hp | rfl | hp
    · have := ih p (List.mem_of_mem_take hp); omega
    · omega
    · have := ih p (List.mem_of_mem_drop hp); omega

/-- in order -/
def Sorted (T : Nat → Int) (l : List Nat) : Prop := ∀ i j, i ≤ j → j < l.length → T (l.getD i 0) ≤ T (l.getD j 0)

theorem posOf_head (T : Nat → Int) (l : List Nat) (t : Int) : ∀ i, i < posOf T l t → T (l.getD i 0) ≤ t := by
  induction l with
  | nil => intro i hi; simp [posOf] at hi
  | cons a l ih =>
    intro i hi
    simp only [posOf, List.takeWhile_cons] at hi
    by_cases h0 : T a ≤ t
    · simp only [h0, decide_true, if_true, List.length_cons] at hi
      cases i with
      | zero => simpa using h0
      | succ i => have := ih i (by unfold posOf; omega); simpa using this
    · simp [h0] at hi

theorem posOf_next (T : Nat → Int) (l : List Nat) (t : Int) (h : posOf T l t < l.length) : t < T (l.getD (posOf T l t) 0) := by
  induction l with
  | nil => simp at h
  | cons a l ih =>
    simp only [posOf, List.takeWhile_cons] at h ⊢
    by_cases h0 : T a ≤ t
    · simp only [h0, decide_true, if_true, List.length_cons] at h ⊢
      have := ih (by unfold posOf; omega)
      simpa [posOf] using this
    · simp [h0]
      omega

theorem posOf_tail (T : Nat → Int) (l : List Nat) (t : Int) (hs : Sorted T l) : ∀ i, posOf T l t ≤ i → i < l.length → t < T (l.getD i 0) := by
  intro i hi hl
  have h1 := posOf_next T l t (by omega)
  have h2 := hs _ _ hi hl
  omega

theorem ordAt_sorted (T : Nat → Int) (k : Nat) : Sorted T (ordAt T k) := by
  induction k with
  | zero => intro i j _ hj; simp [ordAt] at hj
  | succ k ih =>
    intro i j hij hj
    have hr := posOf_le T (ordAt T k) (T k)
    have hl := ordAt_length T k
    rw [ordAt_length] at hj
    have a1 := posOf_head T (ordAt T k) (T k)
    have a2 := posOf_tail T (ordAt T k) (T k) ih
    rw [ordAt, insAt_getD _ _ _ _ hr, insAt_getD _ _ _ _ hr]
    generalize posOf T (ordAt T k) (T k) = r at *
    by_cases c1 : i < r
    · rw [if_pos c1]
      by_cases c2 : j < r
      · rw [if_pos c2]; exact ih i j hij (by omega)
      · rw [if_neg c2]
        by_cases c3 : j = r
        · rw [if_pos c3]; exact a1 i c1
        · rw [if_neg c3]; exact ih i (j - 1) (by omega) (by omega)
    · rw [if_neg c1, if_neg (by omega : ¬ j < r)]
      by_cases c3 : i = r
      · rw [if_pos c3]
        by_cases c4 : j = r
        · rw [if_pos c4]; exact Int.le_refl _
        · rw [if_neg c4]; have := a2 (j - 1) (by omega) (by omega); omega
      · rw [if_neg c3, if_neg (by omega : ¬ j = r)]
        exact ih (i - 1) (j - 1) (by omega) (by omega)

/-- running sums -/
def sumsFrom (acc : Int) : List (Int × Int × Int) → List (Int × Int × Int)
  | [] => []
  | m :: l => (m.1, m.2.1, wrap64 (acc + m.2.2)) :: sumsFrom (wrap64 (acc + m.2.2)) l

/-- what is summed up behind l -/
def accOf (acc : Int) : List (Int × Int × Int) → Int
  | [] => acc
  | m :: l => accOf (wrap64 (acc + m.2.2)) l

theorem sumsFrom_length (acc : Int) (l : List (Int × Int × Int)) : (sumsFrom acc l).length = l.length := by
  induction l generalizing acc with
  | nil => rfl
  | cons m l ih => simp [sumsFrom, ih]

theorem sumsFrom_append (acc : Int) (a b : List (Int × Int × Int)) : sumsFrom acc (a ++ b) = sumsFrom acc a ++ sumsFrom (accOf acc a) b := by
  induction a generalizing acc with
  | nil => rfl
  | cons m a ih => simp [sumsFrom, accOf, ih]

theorem wrap64_swap (a s t : Int) : wrap64 (wrap64 (a + t) + s) = wrap64 (wrap64 (a + s) + t) := by
  unfold wrap64; omega

theorem sumsFrom_raise (acc s : Int) (l : List (Int × Int × Int)) : (sumsFrom acc l).map (raise s) = sumsFrom (wrap64 (acc + s)) l := by
  induction l generalizing acc with
  | nil => rfl
  | cons m l ih =>
    simp only [sumsFrom, List.map_cons, ih, raise, wrap64_swap]

theorem accOf_last (acc : Int) (l : List (Int × Int × Int)) (h : l.length ≠ 0) : accOf acc l = ((sumsFrom acc l).getD (l.length - 1) (0, 0, 0)).2.2 := by
  induction l generalizing acc with
  | nil => simp at h
  | cons m l ih =>
    by_cases hl : l.length = 0
    · have : l = [] := List.eq_nil_of_length_eq_zero hl
      subst this
      simp [accOf, sumsFrom]
    · have := ih (wrap64 (acc + m.2.2)) hl
      rw [accOf, this, sumsFrom, List.length_cons, show l.length + 1 - 1 = (l.length - 1) + 1 by omega, List.getD_cons_succ]

/-- the law of placeMark: the running sums of the list with the new one put in -/
theorem placed_sums (l : List (Int × Int × Int)) (r : Nat) (hr : r ≤ l.length) (t o s : Int) (hs : wrap64 s = s) :
    placed (sumsFrom 0 l) r t o s = sumsFrom 0 (insAt r (t, o, s) l) := by
  have e : l = l.take r ++ l.drop r := (List.take_append_drop r l).symm
  have hlen : (l.take r).length = r := by simp; omega
  have e1 : sumsFrom 0 l = sumsFrom 0 (l.take r) ++ sumsFrom (accOf 0 (l.take r)) (l.drop r) := by
    rw [← sumsFrom_append, List.take_append_drop]
  have e2 : (sumsFrom 0 l).take r = sumsFrom 0 (l.take r) := by
    rw [e1, List.take_left' (by rw [sumsFrom_length, hlen])]
  have e3 : (sumsFrom 0 l).drop r = sumsFrom (accOf 0 (l.take r)) (l.drop r) := by
    rw [e1, List.drop_left' (by rw [sumsFrom_length, hlen])]
  have e4 : upNext (sumsFrom 0 (l.take r)) s = wrap64 (accOf 0 (l.take r) + s) := by
    unfold upNext
    rw [sumsFrom_length]
    by_cases h0 : (l.take r).length = 0
    · have : l.take r = [] := List.eq_nil_of_length_eq_zero h0
      rw [if_pos h0, this, accOf, Int.zero_add, hs]
    · rw [if_neg h0, ← accOf_last 0 _ h0, Int.add_comm]
  unfold placed
  rw [e2, e3, e4, sumsFrom_raise, insAt, sumsFrom_append, sumsFrom]
  simp

theorem sumsFrom_time (acc : Int) (l : List (Int × Int × Int)) (i : Nat) : ((sumsFrom acc l).getD i (0, 0, 0)).1 = (l.getD i (0, 0, 0)).1 ∧ ((sumsFrom acc l).getD i (0, 0, 0)).2.1 = (l.getD i (0, 0, 0)).2.1 := by
  induction l generalizing acc i with
  | nil => simp [sumsFrom]
  | cons m l ih =>
    cases i with
    | zero => simp [sumsFrom]
    | succ i => simpa [sumsFrom] using ih (wrap64 (acc + m.2.2)) i

theorem sumsFrom_upto (acc : Int) (l : List (Int × Int × Int)) (i : Nat) (hi : i < l.length) : ((sumsFrom acc l).getD i (0, 0, 0)).2.2 = accOf acc (l.take (i + 1)) ∧ accOf acc (l.take (i + 1)) = wrap64 (accOf acc (l.take i) + (l.getD i (0, 0, 0)).2.2) := by
  induction l generalizing acc i with
  | nil => simp at hi
  | cons m l ih =>
    cases i with
    | zero => simp [sumsFrom, accOf]
    | succ i => simpa [sumsFrom, accOf] using ih (wrap64 (acc + m.2.2)) i (by simpa using hi)

/-- the marks behind k placings -/
def marksAt (T O S : Nat → Int) (k : Nat) : List (Int × Int × Int) := sumsFrom 0 ((ordAt T k).map fun p => (T p, O p, S p))

theorem marksAt_length (T O S : Nat → Int) (k : Nat) : (marksAt T O S k).length = k := by simp [marksAt, sumsFrom_length, ordAt_length]

theorem map_getD {α β : Type} (f : α → β) (l : List α) (d : α) (e : β) (i : Nat) (h : i < l.length) : (l.map f).getD i e = f (l.getD i d) := by
  simp [List.getD, h]

theorem marksAt_time (T O S : Nat → Int) (k i : Nat) (h : i < k) : ((marksAt T O S k).getD i (0, 0, 0)).1 = T ((ordAt T k).getD i 0) := by
  unfold marksAt
  rw [(sumsFrom_time _ _ _).1, map_getD _ _ 0 _ _ (by rw [ordAt_length]; exact h)]

theorem marksAt_off (T O S : Nat → Int) (k i : Nat) (h : i < k) : ((marksAt T O S k).getD i (0, 0, 0)).2.1 = O ((ordAt T k).getD i 0) := by
  unfold marksAt
  rw [(sumsFrom_time _ _ _).2, map_getD _ _ 0 _ _ (by rw [ordAt_length]; exact h)]

theorem marksAt_sorted (T O S : Nat → Int) (k : Nat) : ∀ i j, i ≤ j → j < (marksAt T O S k).length → ((marksAt T O S k).getD i (0, 0, 0)).1 ≤ ((marksAt T O S k).getD j (0, 0, 0)).1 := by
  intro i j hij hj
  rw [marksAt_length] at hj
  rw [marksAt_time _ _ _ _ _ hj, marksAt_time _ _ _ _ _ (by omega)]
  exact ordAt_sorted T k i j hij (by rw [ordAt_length]; exact hj)

/-- one placing more -/
theorem marksAt_succ (T O S : Nat → Int) (k r : Nat) (hs : wrap64 (S k) = S k) (hr : r ≤ (marksAt T O S k).length) (h1 : ∀ i, i < r → ((marksAt T O S k).getD i (0, 0, 0)).1 ≤ T k) (h2 : ∀ i, r ≤ i → i < (marksAt T O S k).length → T k < ((marksAt T O S k).getD i (0, 0, 0)).1) :
    placed (marksAt T O S k) r (T k) (O k) (S k) = marksAt T O S (k + 1) := by
  rw [marksAt_length] at hr h2
  have hp : posOf T (ordAt T k) (T k) = r := by
    refine posOf_eq T _ _ r (by rw [ordAt_length]; exact hr) (fun i hi => ?_) (fun i hi hl => ?_)
    · rw [← marksAt_time T O S k i (by omega)]; exact h1 i hi
    · rw [ordAt_length] at hl; rw [← marksAt_time T O S k i hl]; exact h2 i hi hl
  show placed (sumsFrom 0 _) r _ _ _ = sumsFrom 0 ((ordAt T (k + 1)).map _)
  rw [placed_sums _ _ (by simp [ordAt_length]; exact hr) _ _ _ hs, ordAt, hp, insAt_map]

/-- what is summed up behind k of n -/
def uptoAt (T O S : Nat → Int) (n k : Nat) : Int := accOf 0 (((ordAt T n).map fun p => (T p, O p, S p)).take k)

theorem uptoAt_zero (T O S : Nat → Int) (n : Nat) : uptoAt T O S n 0 = 0 := by simp [uptoAt, accOf]

theorem uptoAt_succ (T O S : Nat → Int) (n k : Nat) (h : k < n) : uptoAt T O S n (k + 1) = wrap64 (uptoAt T O S n k + S ((ordAt T n).getD k 0)) ∧ ((marksAt T O S n).getD k (0, 0, 0)).2.2 = uptoAt T O S n (k + 1) := by
  have := sumsFrom_upto 0 ((ordAt T n).map fun p => (T p, O p, S p)) k (by simp [ordAt_length]; exact h)
  rw [map_getD _ _ 0 _ _ (by rw [ordAt_length]; exact h)] at this
  exact ⟨this.2, this.1⟩
end Go.Proofs.Qxb6617231a

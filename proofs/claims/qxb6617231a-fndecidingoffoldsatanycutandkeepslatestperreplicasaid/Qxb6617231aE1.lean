import Derived.Test.Qxb6617231aD9
namespace Go.Proofs.Qxb6617231a
open Go.RowKit
/-! ### The latest stamp per replica: the plain law -/

/-- the greatest of m and the times of those stamped by r -/
def maxL : List (Int × ByteArray × Int) → ByteArray → Int → Int
  | [], _, m => m
  | s :: l, r, m => maxL l r (if eqs s.2.1 r = true ∧ m < s.1 then s.1 else m)

def mem (seen : List ByteArray) (r : ByteArray) : Bool := seen.any fun x => eqs x r

theorem mem_append (a b : List ByteArray) (r : ByteArray) : mem (a ++ b) r = (mem a r || mem b r) := by simp [mem]
theorem mem_one (x r : ByteArray) : mem [x] r = eqs x r := by simp [mem]

/-- base's stamps, the first of each replica raised -/
def upR (seen : List ByteArray) (t : List (Int × ByteArray × Int)) : List (Int × ByteArray) → List (Int × ByteArray)
  | [] => []
  | d :: b => (if mem seen d.2 = true then d else (maxL t d.2 d.1, d.2)) :: upR (seen ++ [d.2]) t b

/-- the new replicas, in the order in which they first appear -/
def newR (seen : List ByteArray) : List (Int × ByteArray × Int) → List (Int × ByteArray)
  | [] => []
  | s :: t => (if mem seen s.2.1 = true then [] else [(maxL t s.2.1 s.1, s.2.1)]) ++ newR (seen ++ [s.2.1]) t

def repsB (b : List (Int × ByteArray)) : List ByteArray := b.map fun d => d.2

theorem maxL_other (s : Int × ByteArray × Int) (t : List (Int × ByteArray × Int)) (r : ByteArray) (m : Int) (h : eqs s.2.1 r = false) : maxL (s :: t) r m = maxL t r m := by
  rw [maxL, if_neg (by simp [h])]

theorem eqs_comm (a b : ByteArray) : eqs a b = eqs b a := by
  rw [Bool.eq_iff_iff, eqs_iff, eqs_iff]
  exact ⟨Eq.symm, Eq.symm⟩

theorem newR_congr (t : List (Int × ByteArray × Int)) (a b : List ByteArray) (h : ∀ r, mem a r = mem b r) : newR a t = newR b t := by
  induction t generalizing a b with
  | nil => rfl
  | cons s t ih =>
    rw [newR, newR, h, ih (a ++ [s.2.1]) (b ++ [s.2.1]) (fun r => by rw [mem_append, mem_append, h])]

theorem upR_nil (seen : List ByteArray) (b : List (Int × ByteArray)) : upR seen [] b = b := by
  induction b generalizing seen with
  | nil => rfl
  | cons d b ih =>
    rw [upR, ih]
    split <;> rfl

theorem upR_append (seen : List ByteArray) (t : List (Int × ByteArray × Int)) (a b : List (Int × ByteArray)) : upR seen t (a ++ b) = upR seen t a ++ upR (seen ++ repsB a) t b := by
  induction a generalizing seen with
  | nil => simp [repsB, upR]
  | cons d a ih =>
    rw [List.cons_append, upR, upR, ih]
    simp [repsB]

/-- a write whose replica is told already turns nothing -/
theorem upR_seen (seen : List ByteArray) (s : Int × ByteArray × Int) (t : List (Int × ByteArray × Int)) (b : List (Int × ByteArray)) (h : mem seen s.2.1 = true) : upR seen (s :: t) b = upR seen t b := by
  induction b generalizing seen with
  | nil => rfl
  | cons d b ih =>
    rw [upR, upR, ih (seen ++ [d.2]) (by rw [mem_append, h]; rfl)]
    congr 1
    by_cases hd : mem seen d.2 = true
    · rw [if_pos hd, if_pos hd]
    · rw [if_neg hd, if_neg hd]
      have : eqs s.2.1 d.2 = false := by
        rw [eqs_false]
        intro e
        rw [e] at h
        exact hd h
      rw [maxL_other s t d.2 d.1 this]

/-- .. nor one whose replica is not there -/
theorem upR_absent (seen : List ByteArray) (s : Int × ByteArray × Int) (t : List (Int × ByteArray × Int)) (b : List (Int × ByteArray)) (h : mem (repsB b) s.2.1 = false) : upR seen (s :: t) b = upR seen t b := by
  induction b generalizing seen with
  | nil => rfl
  | cons d b ih =>
    have h0 : eqs d.2 s.2.1 = false ∧ mem (repsB b) s.2.1 = false := by simpa [repsB, mem] using h
    rw [upR, upR, ih (seen ++ [d.2]) h0.2]
    congr 1
    rw [maxL_other s t d.2 d.1 (by rw [eqs_comm]; exact h0.1)]

theorem decideL_absent (b : List (Int × ByteArray)) (s : Int × ByteArray) (h : mem (repsB b) s.2 = false) : decideL b s = b ++ [s] := by
  induction b with
  | nil => rfl
  | cons d b ih =>
    have h0 : eqs d.2 s.2 = false ∧ mem (repsB b) s.2 = false := by simpa [repsB, mem] using h
    rw [decideL, if_neg (by simp [h0.1]), ih h0.2]
    rfl

theorem decideL_reps (b : List (Int × ByteArray)) (s : Int × ByteArray) (h : mem (repsB b) s.2 = true) : repsB (decideL b s) = repsB b := by
  induction b with
  | nil => simp [repsB, mem] at h
  | cons d b ih =>
    rw [decideL]
    by_cases he : eqs d.2 s.2 = true
    · rw [if_pos he]
      split
      · simp [repsB, (eqs_iff _ _).1 he]
      · rfl
    · rw [if_neg he]
      have h0 : mem (repsB b) s.2 = true := by
        have he' : eqs d.2 s.2 = false := by simpa using he
        simpa [repsB, mem, he'] using h
      have := ih h0
      simp only [repsB, List.map_cons] at this ⊢
      rw [this]

/-- one write more at the head, its replica among base's -/
theorem upR_decide (seen : List ByteArray) (s : Int × ByteArray × Int) (t : List (Int × ByteArray × Int)) (b : List (Int × ByteArray)) (h : mem (repsB b) s.2.1 = true) (hs : mem seen s.2.1 = false) :
    upR seen t (decideL b (stampOf s)) = upR seen (s :: t) b := by
  induction b generalizing seen with
  | nil => simp [repsB, mem] at h
  | cons d b ih =>
    rw [decideL]
    by_cases he : eqs d.2 s.2.1 = true
    · have hd : d.2 = s.2.1 := (eqs_iff _ _).1 he
      rw [if_pos (show eqs d.2 (stampOf s).2 = true from he)]
      have e1 : upR seen (s :: t) (d :: b) = (maxL (s :: t) d.2 d.1, d.2) :: upR (seen ++ [d.2]) t b := by
        rw [upR, if_neg (by rw [hd, hs]; simp), upR_seen (seen ++ [d.2]) s t b (by rw [mem_append, mem_one, he]; simp)]
      rw [e1, maxL]
      by_cases hlt : d.1 < s.1
      · rw [if_pos (show d.1 < (stampOf s).1 from hlt), if_pos ⟨by rw [eqs_comm]; exact he, hlt⟩, upR]
        have : (stampOf s).2 = d.2 := hd.symm
        rw [this, if_neg (by rw [hd, hs]; simp)]
        rfl
      · rw [if_neg (show ¬ d.1 < (stampOf s).1 from hlt), if_neg (fun h => hlt h.2), upR, if_neg (by rw [hd, hs]; simp)]
    · rw [if_neg (show ¬ eqs d.2 (stampOf s).2 = true from he)]
      have he' : eqs d.2 s.2.1 = false := by simpa using he
      have h0 : mem (repsB b) s.2.1 = true := by simpa [repsB, mem, he'] using h
      rw [upR, upR, ih (seen ++ [d.2]) h0 (by rw [mem_append, hs, mem_one, he']; rfl), maxL_other s t d.2 d.1 (by rw [eqs_comm]; exact he')]

/-- THE PLAIN LAW: deciding one by one keeps the latest stamp per replica -/
theorem foldS_latest (b : List (Int × ByteArray)) (t : List (Int × ByteArray × Int)) : foldS b t = upR [] t b ++ newR (repsB b) t := by
  induction t generalizing b with
  | nil => rw [upR_nil]; simp [foldS, newR]
  | cons s t ih =>
    have e : foldS b (s :: t) = foldS (decideL b (stampOf s)) t := rfl
    rw [e, ih]
    cases hm : mem (repsB b) s.2.1 with
    | true =>
      rw [upR_decide [] s t b hm rfl, decideL_reps b (stampOf s) hm, newR, if_pos hm, List.nil_append]
      congr 1
      refine newR_congr t _ _ (fun r => ?_)
      rw [mem_append, mem_one]
      by_cases hr : eqs s.2.1 r = true
      · have := (eqs_iff _ _).1 hr
        rw [← this, hm]; rfl
      · simp [hr]
    | false =>
      rw [decideL_absent b (stampOf s) hm, upR_append, upR_absent [] s t b hm, newR, if_neg (by simp [hm])]
      have : upR ([] ++ repsB b) t [stampOf s] = [(maxL t s.2.1 s.1, s.2.1)] := by
        have hm' : ¬ mem ([] ++ repsB b) (stampOf s).2 = true := by
          rw [List.nil_append]
          show ¬ mem (repsB b) s.2.1 = true
          simp [hm]
        rw [upR, if_neg hm']
        rfl
      rw [this, List.append_assoc]
      congr 2
      simp [repsB, stampOf]

/-! ### Folding at a cut -/
theorem foldS_append (b : List (Int × ByteArray)) (x y : List (Int × ByteArray × Int)) : foldS b (x ++ y) = foldS (foldS b x) y := by simp [foldS]

theorem lastPart_before (a b : List (Int × ByteArray × Int)) (h : lastPart b = none) : lastPart (a ++ b) = (lastPart a).map (· ++ b) := by
  induction a with
  | nil => simpa [lastPart] using h
  | cons s a ih =>
    rw [List.cons_append, lastPart, lastPart, ih]
    cases lastPart a with
    | some t => rfl
    | none =>
      by_cases hs : repl s = true
      · simp [hs]
      · simp [hs]

/-- decidingOf folds at any cut -/
theorem decidingL_cut (bl : List (Int × ByteArray)) (x y : List (Int × ByteArray × Int)) : decidingL (decidingL bl x) y = decidingL bl (x ++ y) := by
  cases hy : lastPart y with
  | some t =>
    have h1 : decidingL (decidingL bl x) y = foldS [] t := by simp [decidingL, hy]
    have h2 : decidingL bl (x ++ y) = foldS [] t := by simp [decidingL, lastPart_append x y t hy]
    rw [h1, h2]
  | none =>
    have h1 : decidingL (decidingL bl x) y = foldS (decidingL bl x) y := by rw [decidingL, hy]
    rw [h1]
    cases hx : lastPart x with
    | some t =>
      have h2 : decidingL bl x = foldS [] t := by rw [decidingL, hx]
      have h3 : decidingL bl (x ++ y) = foldS [] (t ++ y) := by rw [decidingL, lastPart_before x y hy, hx]; rfl
      rw [h2, h3, foldS_append]
    | none =>
      have h2 : decidingL bl x = foldS bl x := by rw [decidingL, hx]
      have h3 : decidingL bl (x ++ y) = foldS bl (x ++ y) := by rw [decidingL, lastPart_before x y hy, hx]; rfl
      rw [h2, h3, foldS_append]
end Go.Proofs.Qxb6617231a

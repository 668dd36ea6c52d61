import Derived.Test.Qxb6617231aP7
import Derived.Test.Qxb6617231aM
namespace Go.Proofs.Qxb6617231a
open Go.RowKit
attribute [local go_sem ↓] Go.wp_at_zero Go.wp_at_succ

theorem Rd.grown {w w' : World} {size : Nat} {v : Value} {n : Nat} {xs : List Value} {row : Option Nat} (h : Rd w size v n xs) (hg : w.grownBy w' row) (hne : ∀ k, v.ownBlock = some k → row ≠ some k) : Rd w' size v n xs := by
  refine ⟨h.1, ?_⟩
  rcases h.2 with h0 | ⟨g, cap, rfl, hlt, hnc, hc⟩
  · exact .inl h0
  · refine .inr ⟨g, cap, rfl, Nat.lt_of_lt_of_le hlt hg.size, hnc, fun j u hu => ?_⟩
    exact (World.cell?_of_block (w := w) (a := ⟨g, j, none⟩) (hg.block g hlt (fun e => hne g rfl e.symm))).trans (hc j u hu)

theorem marks_step {w : World} {v : Value} {B : Nat} (T O S : Nat → Int) (k r : Nat) (hs : wrap64 (S k) = S k) (h5 : r ≤ k) (h6 : ∀ i, i < r → ((marksAt T O S k).getD i (0, 0, 0)).1 ≤ T k) (h7 : ∀ i, r ≤ i → i < k → T k < ((marksAt T O S k).getD i (0, 0, 0)).1)
    (h8 : w.ownsRow B 51 3 v (k + 1) (cells3 (placed (marksAt T O S k) r (T k) (O k) (S k)))) : w.ownsRow B 51 3 v (k + 1) (cells3 (marksAt T O S (k + 1))) := by
  have hl := marksAt_length T O S k
  rw [← marksAt_succ T O S k r hs (by rw [hl]; exact h5) h6 (by rw [hl]; exact h7)]
  exact h8

theorem zzPlaceMark_at (B : Nat) (T O S : Nat → Int) (k : Nat) (v : Value) (w : World) (hB : B ≤ w.heap.size) (hn : k ≤ 4096) (hs : wrap64 (S k) = S k) (hown : w.ownsRow B 51 3 v k (cells3 (marksAt T O S k))) :
    Calls Try.prog 18 #[v, .int .i64 (T k), .int .i64 (O k), .int .i64 (S k)] w fun e w' => ∃ v', e = .returned v' ∧ w'.ownsRow B 51 3 v' (k + 1) (cells3 (marksAt T O S (k + 1))) ∧ w.grownBy w' v.ownBlock ∧ Rd w' 3 v k (cells3 (marksAt T O S k)) := by
  have hl := marksAt_length T O S k
  have H := zzPlaceMark_any B (marksAt T O S k) v (T k) (O k) (S k) w hB (by rw [hl]; exact hn) (by rw [hl]; exact hown) (marksAt_sorted T O S k)
  rw [hl] at H
  refine H.mono ?_
  rintro e w' ⟨v', r, rfl, h5, h6, h7, h8, h9, h10⟩
  exact ⟨v', rfl, marks_step T O S k r hs h5 h6 h7 h8, h9, h10⟩

theorem markRows_at (T O S : Nat → Int) (k : Nat) (v : Value) (w : World) (hn : k ≤ 4096) (h : Rd w 3 v k (cells3 (marksAt T O S k))) :
    Calls Try.prog 17 #[v] w fun e w' => ∃ v', e = .returned v' ∧ Rd w' 3 v' k (cells3 (marksAt T O S k)) ∧ (∀ j, v'.ownBlock = some j → w.heap.size ≤ j) ∧ v' ≠ .slice none 0 0 ∧ Below w.heap.size w w' := by
  have hl := marksAt_length T O S k
  have H := markRows_any (marksAt T O S k) v w (by rw [hl]; exact hn) (by rw [hl]; exact h)
  rwa [hl] at H

theorem sameRows_at (T O S : Nat → Int) (k : Nat) (v v' : Value) (w : World) (hn : k ≤ 4096) (h : Rd w 3 v k (cells3 (marksAt T O S k))) (h' : Rd w 3 v' k (cells3 (marksAt T O S k))) (hv : v ≠ .slice none 0 0) (hv' : v' ≠ .slice none 0 0) :
    Calls Try.prog 19 #[v, v'] w fun e w' => e = .returned (.bool true) ∧ Below w.heap.size w w' := by
  have hl := marksAt_length T O S k
  exact sameRows_any (marksAt T O S k) v v' w (by rw [hl]; exact hn) (by rw [hl]; exact h) (by rw [hl]; exact h') hv hv'

set_option maxHeartbeats 400000 in
theorem law_big (a : Option Addr) (n cap : Nat) (hn : n ≤ maxLen) (h : 4096 < n) (w : World) :
    Calls Try.prog 5 #[.slice a n cap] w fun e w' => e = .returned (.bool true) ∧ Below w.heap.size w w' := by
  unfold maxLen at hn
  by_cases hb : 1048576 < n
  · go_enter Try.func5, Try.ntmps5
    go_wp2_with (go_at_call 16; refine (bytes_no _ _ _ (by unfold maxLen; omega) hb _).mono ?_; rintro e w' ⟨rfl, rfl⟩)
    go_ret
    exact ⟨rfl, Below.refl _ _⟩
  · go_enter Try.func5, Try.ntmps5
    go_wp2_with (go_at_call 16; refine (bytes_yes _ _ _ (by omega) _).mono ?_; rintro e w' ⟨rfl, rfl⟩)
    go_ret
    exact ⟨rfl, Below.refl _ _⟩

theorem Try.info3 : (Try.prog.info? 3).map (fun i => (i.zero, i.size, i.bytes)) = some (some (.int .i64 0), 1, 8) := by kernel_rfl

/-- indices as cells -/
def ints (l : List Nat) : List Value := l.map fun p : Nat => Value.int .i64 (p : Int)
theorem ints_get (l : List Nat) (j : Nat) (h : j < l.length) : (ints l)[j]? = some (.int .i64 ((l.getD j 0 : Nat) : Int)) := by
  simp [ints, List.getD, h]

/-- the insertion under way: the hole is at j -/
def Shift (w : World) (g n i j : Nat) (l : List Nat) : Prop :=
  ∃ f, w.rowIs g 3 n f ∧ (∀ p, p < j → f p = .int .i64 ((l.getD p 0 : Nat) : Int)) ∧ (∀ p, j < p → p ≤ i → f p = .int .i64 ((l.getD (p - 1) 0 : Nat) : Int))

theorem shift_start {w : World} {g n i : Nat} {l : List Nat} (hl : l.length = i) (_hi : i < n) (h : Filled w g n i 3 (ints l)) : Shift w g n i i l := by
  obtain ⟨f, hr, hf⟩ := h
  exact ⟨f, hr, fun p hp => hf p _ hp (ints_get l p (by omega)), fun p h1 h2 => absurd h1 (by omega)⟩

theorem shift_step {w : World} {g n i j : Nat} {l : List Nat} (_hj : j < i) (h : Shift w g n i (j + 1) l) : Shift (w.setCell ⟨g, j + 1, none⟩ (.int .i64 ((l.getD j 0 : Nat) : Int))) g n i j l := by
  obtain ⟨f, hr, h1, h2⟩ := h
  refine ⟨_, hr.set (j + 1) _, fun p hp => ?_, fun p hp hpi => ?_⟩
  · show (if p = j + 1 then _ else f p) = _
    rw [if_neg (by omega)]
    exact h1 p (by omega)
  · show (if p = j + 1 then _ else f p) = _
    by_cases e : p = j + 1
    · subst e; rw [if_pos rfl]; simp
    · rw [if_neg e]; exact h2 p (by omega) hpi

theorem shift_done {w : World} {g n i j : Nat} (T : Nat → Int) (hj : j ≤ i) (_hi : i < n) (h : Shift w g n i j (ordAt T i)) (h1 : j = 0 ∨ T ((ordAt T i).getD (j - 1) 0) ≤ T i) (h2 : ∀ p, j ≤ p → p < i → T i < T ((ordAt T i).getD p 0)) :
    Filled (w.setCell ⟨g, j, none⟩ (.int .i64 (i : Int))) g n (i + 1) 3 (ints (ordAt T (i + 1))) := by
  have hl := ordAt_length T i
  have hp : posOf T (ordAt T i) (T i) = j := by
    refine posOf_eq T _ _ j (by omega) (fun p hp => ?_) (fun p hp hpl => h2 p hp (by omega))
    have := ordAt_sorted T i p (j - 1) (by omega) (by omega)
    rcases h1 with h1 | h1
    · omega
    · omega
  obtain ⟨f, hr, f1, f2⟩ := h
  refine ⟨_, hr.set j _, fun p u hpi hu => ?_⟩
  rw [ints_get _ p (by rw [ordAt_length]; exact hpi), ordAt, hp, insAt_getD _ _ _ _ (by omega)] at hu
  injection hu with hu
  rw [← hu]
  show (if p = j then _ else f p) = _
  by_cases c1 : p < j
  · rw [if_neg (by omega), if_pos c1]; exact f1 p c1
  · by_cases c2 : p = j
    · rw [if_pos c2, if_neg c1, if_pos c2]
    · rw [if_neg c2, if_neg c1, if_neg c2]; exact f2 p (by omega) (by omega)

theorem ord_lt (T : Nat → Int) (n k : Nat) (h : k < n) : (ordAt T n).getD k 0 < n := by
  have hlen : k < (ordAt T n).length := by rw [ordAt_length]; exact h
  refine ordAt_lt T n _ ?_
  rw [List.getD_eq_getElem?_getD, List.getElem?_eq_getElem hlen]
  exact List.getElem_mem _

/-- the marks at the end, one by one -/
theorem marks_form (T O S : Nat → Int) (n : Nat) (v : Value) (w : World) (h : Rd w 3 v n (cells3 (marksAt T O S n))) (hn : 0 < n) :
    ∃ g cap, v = .slice (some ⟨g, 0, none⟩) n cap ∧ g < w.heap.size ∧ ∀ k, k < n → w.cell? ⟨g, k * 3, none⟩ = some (.int .i64 (T ((ordAt T n).getD k 0))) ∧ w.cell? ⟨g, k * 3 + 1, none⟩ = some (.int .i64 (O ((ordAt T n).getD k 0))) ∧
      w.cell? ⟨g, k * 3 + 2, none⟩ = some (.int .i64 (wrap64 (uptoAt T O S n k + S ((ordAt T n).getD k 0)))) := by
  have hl := marksAt_length T O S n
  have h' : Rd w 3 v (marksAt T O S n).length (cells3 (marksAt T O S n)) := by rw [hl]; exact h
  rcases h'.form3 with ⟨_, h0⟩ | ⟨g, cap, hv, hg, _, hc⟩
  · rw [h0] at hl; simp at hl; omega
  · rw [hl] at hv
    refine ⟨g, cap, hv, hg, fun k hk => ?_⟩
    have := hc k (by rw [hl]; exact hk)
    rw [marksAt_time _ _ _ _ _ hk, marksAt_off _ _ _ _ _ hk, (uptoAt_succ T O S n k hk).2, (uptoAt_succ T O S n k hk).1] at this
    exact this

theorem new_two (w : World) (c d : Array Value) (t t' : TypeId) : (∀ j u, c[j]? = some u → ((w.alloc (.cells c t)).alloc (.cells d t')).cell? ⟨w.heap.size, j, none⟩ = some u) ∧ (∀ j u, d[j]? = some u → ((w.alloc (.cells c t)).alloc (.cells d t')).cell? ⟨w.heap.size + 1, j, none⟩ = some u) := by
  refine ⟨fun j u hu => ?_, fun j u hu => ?_⟩
  · rw [World.cell?_alloc_lt _ _ _ (by simp), cell_of_row _ _ _ _ _ _ (heap_alloc_new w _)]
    exact hu
  · have e : w.heap.size + 1 = (w.alloc (.cells c t)).heap.size := by simp
    rw [e, cell_of_row _ _ _ _ _ _ (heap_alloc_new _ _)]
    exact hu

set_option maxHeartbeats 1000000 in
theorem law_walk (b off n cap : Nat) (T O S : Nat → Int) (w : World) (hn0 : 0 < n) (hn : n ≤ 4096) (hb : b < w.heap.size)
    (hc : Hid (∀ i, i < n → w.cell? ⟨b, off + i * 3, none⟩ = some (.int .i64 (T i)) ∧ w.cell? ⟨b, off + i * 3 + 1, none⟩ = some (.int .i64 (O i)) ∧ w.cell? ⟨b, off + i * 3 + 2, none⟩ = some (.int .i64 (S i))))
    (hS : Hid (∀ i, i < n → wrap64 (S i) = S i)) :
    Calls Try.prog 5 #[.slice (some ⟨b, off, none⟩) n cap] w fun e w' => e = .returned (.bool true) ∧ Below w.heap.size w w' := by
  have hd : decide ((4096 : Int) < (n : Int)) = false := by simp; omega
  go_enter Try.func5, Try.ntmps5
  go_wp2_with (go_at_call 16; refine (bytes_yes _ _ _ (by omega) _).mono ?_; rintro e w' ⟨rfl, rfl⟩)
  go_loopw [3, 4] (fun v i wr => ∃ k : Nat, k ≤ n ∧ i = .int .i64 k ∧ wr.ownsRow w.heap.size 51 3 v k (cells3 (marksAt T O S k)) ∧ Below w.heap.size w wr) (fun _ i _ => n - (intOf i).toNat)
  case atStart => exact ⟨0, Nat.zero_le _, rfl, World.ownsRow_nil _ _ _ _, Below.refl _ _⟩
  case round =>
    obtain ⟨k, hk, rfl, hown, hbk⟩ := hrel
    by_cases hlt : k < n
    · have HO := hide hown
      have H17 := markRows_at T O S k u3 wr (by omega) (Rd.of_own hown)
      clear hown
      go_wp2_with fail
      refine H17.mono ?_
      clear H17
      rintro e w1 ⟨v1, rfl, h1, h2, h3, h4⟩
      have H1 := hide h1
      have H2 := hide h2
      have H3 := hide h3
      clear h1 h2 h3
      have hb1 : Below w.heap.size w w1 := hbk.trans (h4.mono hbk.size)
      obtain ⟨E0, E1, E2⟩ := hc.out k hlt
      have e0 : w1.cell? ⟨b, off + k * 3, none⟩ = some (.int .i64 (T k)) := cellB hb1 hb E0
      have e1 : w1.cell? ⟨b, off + k * 3 + 1, none⟩ = some (.int .i64 (O k)) := cellB hb1 hb E1
      have e2 : w1.cell? ⟨b, off + k * 3 + 2, none⟩ = some (.int .i64 (S k)) := cellB hb1 hb E2
      have H18 := hide (zzPlaceMark_at w.heap.size T O S k u3 w1.drew hb1.size (by omega) (hS.out k hlt) (HO.out.kept (grownBy_below h4 none) (by cases u3.ownBlock <;> simp)).drew)
      go_wp2_with fail
      go_region_held3 (fun w' => w'.cell? ⟨b, off + k * 3, none⟩ = some (.int .i64 (T k)) ∧ w'.cell? ⟨b, off + k * 3 + 1, none⟩ = some (.int .i64 (O k)) ∧ w'.cell? ⟨b, off + k * 3 + 2, none⟩ = some (.int .i64 (S k))) (refine ⟨cellB (w := w) ?_ hb E0, cellB (w := w) ?_ hb E1, cellB (w := w) ?_ hb E2⟩ <;> first | assumption | (refine Below.drew ?_; assumption))
        (first | (go_at_call 18; refine H18.out.mono ?_; clear H18; rintro e w2 ⟨v2, rfl, h8, h9, h10⟩; have hb2 : Below w.heap.size w w2 := hb1.drew.grown h9 hb1.size (fun j hj => (HO.out.lt j hj).1); have H8 := hide h8; have H9 := hide h9; have H10 := hide h10; clear h8 h9 h10))
      have hr1 : Hid (Rd w2 3 v1 k (cells3 (marksAt T O S k))) := hide (H1.out.grown (w := w1.drew) H9.out (fun j hj e => by
        have a1 := H2.out j hj
        have a2 := (HO.out.lt j e).2
        omega))
      have H17 := markRows_at T O S k u3 w2 (by omega) H10.out
      clear e0 e1 e2 E0 E1 E2 H9 H1 H2 H10
      go_wp2_with fail
      refine H17.mono ?_
      clear H17
      rintro e w3 ⟨v3, rfl, h11, _, h13, h14⟩
      have hb3 : Below w.heap.size w w3 := hb2.trans (h14.mono hb2.size)
      have H19 := sameRows_at T O S k v3 v1 w3 (by omega) h11 (hr1.out.below h14) h13 H3.out
      have H8' : Hid (w3.ownsRow w.heap.size 51 3 v2 (k + 1) (cells3 (marksAt T O S (k + 1)))) := hide (H8.out.kept (grownBy_below h14 none) (by cases v2.ownBlock <;> simp))
      clear h11 h13 h14 hr1 H3 H8
      go_wp2_with fail
      refine H19.mono ?_
      clear H19
      rintro e w4 ⟨rfl, h15⟩
      have hb4 : Below w.heap.size w w4 := hb3.trans (h15.mono hb3.size)
      have H8 : Hid (w4.ownsRow w.heap.size 51 3 v2 (k + 1) (cells3 (marksAt T O S (k + 1)))) := hide (H8'.out.kept (grownBy_below h15 none) (by cases v2.ownBlock <;> simp))
      clear h15 H8' hb3 hb2 hb1 HO h4
      go_wp2_with fail
      go_roundw
      case rel => exact ⟨k + 1, by omega, by go_num, H8.out, hb4⟩
      case measure => simp [intOf]; omega
    · obtain rfl : n = k := by omega
      have HO := hide hown
      clear hown hlt hk
      rename World => wa
      have hmk := run_make_row' (P := Try.prog) 49 3 (.int .i64 0) 8 Try.underlying49 Try.info3 rfl .i64 .i64 n (by omega) (by omega)
      have hG : Hid (Filled (wa.alloc (.cells (madeCells #[.int .i64 0] n) 3)) wa.heap.size n 0 3 (ints (ordAt T 0))) := hide ⟨_, World.rowIs_made wa (.int .i64 0) n 3, fun j u hj => absurd hj (by omega)⟩
      go_wp2_with fail
      clear hmk
      go_loopw [8] (fun t8 ws => ∃ i : Nat, i ≤ n ∧ t8 = .int .i64 i ∧ Filled ws wa.heap.size n i 3 (ints (ordAt T i)) ∧ Below wa.heap.size wa ws) (fun t8 _ => n - (intOf t8).toNat)
      case atStart => exact ⟨0, Nat.zero_le _, rfl, hG.out, (Below.refl _ _).alloc (Nat.le_refl _) _⟩
      case round =>
        rename World => wi
        obtain ⟨i, hi, rfl, hF, hbi⟩ := hrel
        clear hG
        by_cases hin : i < n
        · have hSh := hide (shift_start (ordAt_length T i) hin hF)
          clear hF
          obtain ⟨l, hl⟩ : ∃ l, l = ordAt T i := ⟨_, rfl⟩
          rw [← hl] at hSh
          have HL := hide hl
          clear hl
          go_wp2_with fail
          go_loopw [9] (fun t9 ws => ∃ j : Nat, j ≤ i ∧ t9 = .int .i64 j ∧ Shift ws wa.heap.size n i j l ∧ Hid (∀ p, j ≤ p → p < i → T i < T (l.getD p 0)) ∧ Below wa.heap.size wa ws) (fun t9 _ => (intOf t9).toNat)
          case atStart => exact ⟨i, Nat.le_refl _, rfl, hSh.out, hide (fun p h1 h2 => absurd h1 (by omega)), hbi⟩
          case round =>
            obtain ⟨j, hji, rfl, hSj, hPj, hbj⟩ := hrel
            clear hSh hbi
            have HSj := hide hSj
            obtain ⟨f, hr, f1, f2⟩ := hSj
            cases j with
            | zero =>
              have hd0 : decide ((0 : Int) < ((0 : Nat) : Int)) = false := by simp
              have c1 : wr.cell? ⟨wa.heap.size, 0, none⟩ = some (f 0) := hr.cell (by omega)
              have z1 : wr.frozen? ⟨wa.heap.size, 0, none⟩ = false := hr.frozen 0
              clear hr f1 f2
              go_wp2_with fail
              go_quiet (fail)
              go_wp2_with fail
              go_roundw
              case rel =>
                have hl := HL.out
                subst hl
                exact ⟨i + 1, by omega, by go_num, shift_done (w := wr.drewN nq) T (Nat.zero_le _) hin HSj.out (.inl rfl) hPj.out, (hbj.trans (drewN_below wr nq _)).setCell (Nat.le_refl _) _⟩
              case measure => simp [intOf]; omega
            | succ j =>
              obtain ⟨q, hq⟩ : ∃ q, q = l.getD j 0 := ⟨_, rfl⟩
              have hqn : q < n := by
                have h1 : l.getD j 0 ∈ l := by
                  have hlen : j < l.length := by rw [HL.out, ordAt_length]; omega
                  rw [List.getD_eq_getElem?_getD, List.getElem?_eq_getElem hlen]
                  exact List.getElem_mem _
                rw [HL.out] at h1 hq
                have := ordAt_lt T i _ h1
                omega
              have c0 : wr.cell? ⟨wa.heap.size, j, none⟩ = some (.int .i64 (q : Int)) := by rw [hr.cell (by omega), f1 j (by omega), hq]
              have c1 : wr.cell? ⟨wa.heap.size, j + 1, none⟩ = some (f (j + 1)) := hr.cell (by omega)
              have z1 : wr.frozen? ⟨wa.heap.size, j + 1, none⟩ = false := hr.frozen (j + 1)
              have hbw : Below w.heap.size w wr := hbk.trans (hbj.mono hbk.size)
              have p0 : wr.cell? ⟨b, off + q * 3, none⟩ = some (.int .i64 (T q)) := cellB hbw hb (hc.out q hqn).1
              have p1 : wr.cell? ⟨b, off + i * 3, none⟩ = some (.int .i64 (T i)) := cellB hbw hb (hc.out i hin).1
              have HQ := hide hq
              clear hr f1 f2 hq hbw
              by_cases hT : T i < T q
              · go_wp2_with fail
                go_quiet (fail)
                go_wp2_with fail
                go_roundw
                case rel =>
                  refine ⟨j, by omega, rfl, ?_, ?_, (hbj.trans (drewN_below wr nq _)).setCell (Nat.le_refl _) _⟩
                  · have := shift_step (w := wr.drewN nq) (by omega : j < i) HSj.out
                    rwa [← HQ.out] at this
                  · refine hide (fun p h1 h2 => ?_)
                    by_cases e : p = j
                    · subst e; rw [← HQ.out]; exact hT
                    · exact hPj.out p (by omega) h2
                case measure => simp [intOf]
              · go_wp2_with fail
                go_quiet (fail)
                go_wp2_with fail
                go_roundw
                case rel =>
                  have hq := HQ.out
                  have hl := HL.out
                  subst hl
                  exact ⟨i + 1, by omega, by go_num, shift_done (w := wr.drewN nq) T hji hin HSj.out (.inr (by rw [Nat.add_sub_cancel, ← hq]; omega)) hPj.out, (hbj.trans (drewN_below wr nq _)).setCell (Nat.le_refl _) _⟩
                case measure => simp [intOf]; omega
        · obtain rfl : n = i := by omega
          have HF := hide hF
          clear hF hi hin
          obtain ⟨gm, capm, hv, hgm, hmc⟩ := marks_form T O S n u3 wa (Rd.of_own HO.out) hn0
          have HM := hide hmc
          clear hmc HO
          rw [hv]
          clear hv
          go_wp2_with fail
          go_loopw [10, 11] (fun t10 t11 ws => ∃ k : Nat, k ≤ n ∧ t11 = .int .i64 k ∧ t10 = .int .i64 (uptoAt T O S n k) ∧ Below wi.heap.size wi ws) (fun _ t11 _ => n - (intOf t11).toNat)
          case atStart => exact ⟨0, Nat.zero_le _, rfl, by rw [uptoAt_zero], Below.refl _ _⟩
          case round =>
            obtain ⟨k, hk, rfl, rfl, hbs⟩ := hrel
            by_cases hkn : k < n
            · obtain ⟨q, hq⟩ : ∃ q, q = (ordAt T n).getD k 0 := ⟨_, rfl⟩
              have hqn : q < n := by rw [hq]; exact ord_lt T n k hkn
              obtain ⟨U, hU⟩ : ∃ U, U = uptoAt T O S n k := ⟨_, rfl⟩
              have hgi : wa.heap.size < wi.heap.size := HF.out.lt
              have o0 : wr.cell? ⟨wa.heap.size, k, none⟩ = some (.int .i64 (q : Int)) := by
                rw [hq]; exact cellB hbs hgi (HF.out.cell hkn hkn (ints_get _ _ (by rw [ordAt_length]; exact hkn)))
              have hbw : Below w.heap.size w wr := hbk.trans ((hbi.trans (hbs.mono (by omega))).mono hbk.size)
              obtain ⟨P0, P1, P2⟩ := hc.out q hqn
              have p0 : wr.cell? ⟨b, off + q * 3, none⟩ = some (.int .i64 (T q)) := cellB hbw hb P0
              have p1 : wr.cell? ⟨b, off + q * 3 + 1, none⟩ = some (.int .i64 (O q)) := cellB hbw hb P1
              have p2 : wr.cell? ⟨b, off + q * 3 + 2, none⟩ = some (.int .i64 (S q)) := cellB hbw hb P2
              clear P0 P1 P2
              obtain ⟨M0, M1, M2⟩ := HM.out k hkn
              rw [← hq] at M0 M1 M2
              rw [← hU] at M2
              have hba : Below wa.heap.size wa wr := hbi.trans (hbs.mono (by omega))
              have m0 : ∀ o, (wr.alloc o).cell? ⟨gm, k * 3, none⟩ = some (.int .i64 (T q)) := fun o => cellB (alloc0 (Nat.le_refl _) hba o) hgm M0
              have m1 : ∀ o, (wr.alloc o).cell? ⟨gm, k * 3 + 1, none⟩ = some (.int .i64 (O q)) := fun o => cellB (alloc0 (Nat.le_refl _) hba o) hgm M1
              have m2 : ∀ o, (wr.alloc o).cell? ⟨gm, k * 3 + 2, none⟩ = some (.int .i64 (wrap64 (U + S q))) := fun o => cellB (alloc0 (Nat.le_refl _) hba o) hgm M2
              clear M0 M1 M2 hba hbw
              rw [← hU]
              have HQ := hide hq
              have HU := hide hU
              clear hq hU
              go_wp2_with fail
              obtain ⟨N0, N1⟩ := new_two wr #[.int .i64 (T q), .int .i64 (O q), .int .i64 (S q)] #[.int .i64 (T q), .int .i64 (O q), .int .i64 (wrap64 (U + S q))] 47 51
              have hb2 : Below wi.heap.size wi ((wr.alloc (.cells #[.int .i64 (T q), .int .i64 (O q), .int .i64 (S q)] 47)).alloc (.cells #[.int .i64 (T q), .int .i64 (O q), .int .i64 (wrap64 (U + S q))] 51)) := alloc0 (Nat.le_refl _) (alloc0 (Nat.le_refl _) hbs _) _
              have hz2 : wr.heap.size + 1 < ((wr.alloc (.cells #[.int .i64 (T q), .int .i64 (O q), .int .i64 (S q)] 47)).alloc (.cells #[.int .i64 (T q), .int .i64 (O q), .int .i64 (wrap64 (U + S q))] 51)).heap.size := by simp
              generalize (wr.alloc (.cells #[.int .i64 (T q), .int .i64 (O q), .int .i64 (S q)] 47)).alloc (.cells #[.int .i64 (T q), .int .i64 (O q), .int .i64 (wrap64 (U + S q))] 51) = w2 at *
              have n0 : w2.cell? ⟨wr.heap.size, 0, none⟩ = some (.int .i64 (T q)) := N0 0 _ rfl
              have n1 : w2.cell? ⟨wr.heap.size, 1, none⟩ = some (.int .i64 (O q)) := N0 1 _ rfl
              have r0 : w2.cell? ⟨wr.heap.size + 1, 0, none⟩ = some (.int .i64 (T q)) := N1 0 _ rfl
              have r1 : w2.cell? ⟨wr.heap.size + 1, 1, none⟩ = some (.int .i64 (O q)) := N1 1 _ rfl
              have r2 : w2.cell? ⟨wr.heap.size + 1, 2, none⟩ = some (.int .i64 (wrap64 (U + S q))) := N1 2 _ rfl
              have hz1 : wr.heap.size < w2.heap.size := by omega
              have hz0 : w2.heap.size ≤ w2.heap.size := Nat.le_refl _
              clear N0 N1 m0 m1 m2 p0 p1 p2 o0
              go_region_held3 (fun w' => w'.cell? ⟨wr.heap.size, 0, none⟩ = some (.int .i64 (T q)) ∧ w'.cell? ⟨wr.heap.size, 1, none⟩ = some (.int .i64 (O q)) ∧ w'.cell? ⟨wr.heap.size + 1, 0, none⟩ = some (.int .i64 (T q)) ∧ w'.cell? ⟨wr.heap.size + 1, 1, none⟩ = some (.int .i64 (O q)) ∧ w'.cell? ⟨wr.heap.size + 1, 2, none⟩ = some (.int .i64 (wrap64 (U + S q))))
                (refine ⟨cellB (w := w2) ?_ hz1 n0, cellB (w := w2) ?_ hz1 n1, cellB (w := w2) ?_ hz2 r0, cellB (w := w2) ?_ hz2 r1, cellB (w := w2) ?_ hz2 r2⟩ <;> (repeat (first | with_reducible exact Below.refl _ _ | with_reducible refine Below.drew ?_ | with_reducible refine alloc0 hz0 ?_ _)))
                (first | (go_at_call 20; refine (markTime_any _ _ _ _).mono ?_; rintro e w' ⟨rfl, rfl⟩) | (go_at_call 21; refine (markOff_any _ _ _ _).mono ?_; rintro e w' ⟨rfl, rfl⟩) | (go_at_call 22; refine (markUpto_any _ _ _ _).mono ?_; rintro e w' ⟨rfl, rfl⟩))
              clear n0 n1 r0 r1 r2
              go_wp2_with fail
              go_roundw
              case rel =>
                refine ⟨k + 1, by omega, by go_num, ?_, Below.drew (alloc0 (Nat.le_refl _) (alloc0 (Nat.le_refl _) (alloc0 (Nat.le_refl _) hb2 _) _) _)⟩
                rw [(uptoAt_succ T O S n k hkn).1, ← HQ.out, ← HU.out]
              case measure => simp [intOf]; omega
            · go_wp2_with fail
              go_ret
              exact ⟨rfl, hbk.trans ((hbi.trans (hbs.mono (Nat.le_of_lt HF.out.lt))).mono hbk.size)⟩

set_option maxHeartbeats 400000 in
theorem law_zero (a : Option Addr) (cap : Nat) (w : World) :
    Calls Try.prog 5 #[.slice a 0 cap] w fun e w' => e = .returned (.bool true) ∧ Below w.heap.size w w' := by
  have hmk : ∀ w, (Instr.makeSlice 49 (.int .i64 0) (.int .i64 0)).run Try.prog w = .ok (.slice (some ⟨w.heap.size, 0, none⟩) 0 0) (w.alloc (.cells (madeCells #[.int .i64 0] 0) 3)) := fun w => run_make_row' (P := Try.prog) 49 3 (.int .i64 0) 8 Try.underlying49 Try.info3 rfl .i64 .i64 0 (by omega) (by omega) w
  go_enter Try.func5, Try.ntmps5
  go_wp2_with (go_at_call 16; refine (bytes_yes _ _ _ (by omega) _).mono ?_; rintro e w' ⟨rfl, rfl⟩)
  refine wp_loop_rounds 1 ?_
  rw [rounds_succ]
  go_wp2_with fail
  refine wp_loop_rounds 1 ?_
  rw [rounds_succ]
  go_wp2_with fail
  refine wp_loop_rounds 1 ?_
  rw [rounds_succ]
  go_wp2_with fail
  go_ret
  exact ⟨rfl, (Below.refl _ _).alloc (Nat.le_refl _) _⟩
end Go.Proofs.Qxb6617231a

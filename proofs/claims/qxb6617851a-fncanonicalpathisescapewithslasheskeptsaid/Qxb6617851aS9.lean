import Derived.Test.Qxb6617851aS8
namespace Go.Proofs.Qxb6617851a
open Go.RowKit
attribute [local go_sem ↓] Go.wp_at_zero Go.wp_at_succ

/-- every escaped slash written back -/
def restore : List UInt8 → List UInt8
  | [] => []
  | c :: r => if c = 37 ∧ r.take 2 = [50, 70] then 47 :: restore (r.drop 2) else c :: restore r
termination_by l => l.length
decreasing_by
  · simp only [List.length_drop, List.length_cons]
    omega
  · simp only [List.length_cons]
    omega

theorem restore_nil : restore [] = [] := by rw [restore]
theorem restore_hit (r : List UInt8) : restore (37 :: 50 :: 70 :: r) = 47 :: restore r := by
  rw [restore, if_pos ⟨rfl, rfl⟩]
  rfl
theorem restore_miss (c : UInt8) (r : List UInt8) (h : ¬ (c = 37 ∧ r.take 2 = [50, 70])) : restore (c :: r) = c :: restore r := by
  rw [restore, if_neg h]

theorem hexU_ne (n : Nat) (h : n < 16) : hexU n ≠ 37 := by
  have : ∀ n : Fin 16, hexU n.val ≠ 37 := by decide +kernel
  exact this ⟨n, h⟩
theorem hexU_two (n : Nat) (h : n < 16) (e : hexU n = 50) : n = 2 := by
  have : ∀ n : Fin 16, hexU n.val = 50 → n.val = 2 := by decide +kernel
  exact this ⟨n, h⟩ e
theorem hexU_F (n : Nat) (h : n < 16) (e : hexU n = 70) : n = 15 := by
  have : ∀ n : Fin 16, hexU n.val = 70 → n.val = 15 := by decide +kernel
  exact this ⟨n, h⟩ e
theorem restore_escB (c : UInt8) (r : List UInt8) : restore (escB false c ++ r) = escB true c ++ restore r := by
  have hc := c.toNat_lt
  by_cases h47 : c = 47
  · subst h47
    exact restore_hit r
  · rw [escB_true c h47]
    unfold escB
    by_cases hk : keepB false c = true
    · rw [if_pos hk]
      refine restore_miss c r fun h => ?_
      have h1 := keep_ne false c hk
      rw [h.1] at h1
      revert h1
      decide
    · rw [if_neg hk]
      have n1 := hexU_ne (c.toNat / 16) (by omega)
      have n2 := hexU_ne (c.toNat % 16) (by omega)
      show restore (37 :: hexU (c.toNat / 16) :: hexU (c.toNat % 16) :: r) = 37 :: hexU (c.toNat / 16) :: hexU (c.toNat % 16) :: restore r
      rw [restore_miss, restore_miss _ _ (fun h => n1 h.1), restore_miss _ _ (fun h => n2 h.1)]
      rintro ⟨_, h⟩
      rw [List.take_succ_cons, List.take_succ_cons, List.take_zero] at h
      injection h with a1 h
      injection h with a2 _
      have b1 := hexU_two _ (by omega) a1
      have b2 := hexU_F _ (by omega) a2
      exact h47 (UInt8.toNat.inj (by show c.toNat = 47; omega))
theorem restore_esc (l : List UInt8) : restore (esc false l) = esc true l := by
  induction l with
  | nil => exact restore_nil
  | cons c l ih =>
    unfold esc at ih ⊢
    rw [List.flatMap_cons, List.flatMap_cons, restore_escB, ih]

theorem drop_at (E : List UInt8) (n : Nat) (h : n < E.length) : E.drop n = E[n] :: E.drop (n + 1) := (List.getElem_cons_drop h).symm
theorem own_cells {w : World} {B g cap : Nat} {E : List UInt8} (ho : w.ownsRow B 5 1 (.slice (some ⟨g, 0, none⟩) E.length cap) E.length (bcells E)) (j : Nat) (h : j < E.length) : w.cell? ⟨g, j, none⟩ = some (.int .u8 (E[j].toNat : Int)) := by
  have := ho.cells (g := g) rfl j (.int .u8 (E[j].toNat : Int)) (by unfold bcells; rw [List.getElem?_map, List.getElem?_eq_getElem h]; rfl)
  rw [Addr.add_lit, Nat.zero_add] at this
  exact this
theorem byte_ne {c d : UInt8} (h : c ≠ d) : ((c.toNat : Int) == (d.toNat : Int)) = false := by
  rw [beq_eq_false_iff_ne]
  intro e
  exact h (UInt8.toNat.inj (by omega))
theorem byte_is {c d : UInt8} (h : c = d) : ((c.toNat : Int) == (d.toNat : Int)) = true := by
  rw [h]
  exact beq_self_eq_true _

theorem step_miss {E O : List UInt8} {n : Nat} (hn : n < E.length) (h : ¬ (E[n] = 37 ∧ (E.drop (n + 1)).take 2 = [50, 70])) (hO : O ++ restore (E.drop n) = restore E) : (O ++ [E[n]]) ++ restore (E.drop (n + 1)) = restore E := by
  rw [drop_at E n hn, restore_miss _ _ h] at hO
  rw [List.append_assoc]
  exact hO
theorem step_hit {E O : List UInt8} {n : Nat} (hn : n + 2 < E.length) (h0 : E[n] = 37) (h1 : E[n + 1] = 50) (h2 : E[n + 2] = 70) (hO : O ++ restore (E.drop n) = restore E) : (O ++ [47]) ++ restore (E.drop (n + 3)) = restore E := by
  rw [drop_at E n (by omega), drop_at E (n + 1) (by omega), drop_at E (n + 1 + 1) (by omega)] at hO
  have h2' : E[n + 1 + 1]'(by omega) = 70 := h2
  rw [h0, h1, h2', restore_hit] at hO
  rw [List.append_assoc]
  exact hO
theorem two_of {E : List UInt8} {n : Nat} (h : (E.drop (n + 1)).take 2 = [50, 70]) : ∃ hn : n + 2 < E.length, E[n + 1] = 50 ∧ E[n + 2] = 70 := by
  have hl := congrArg List.length h
  rw [List.length_take, List.length_drop] at hl
  have hn : n + 2 < E.length := by
    simp only [List.length_cons, List.length_nil] at hl
    omega
  refine ⟨hn, ?_⟩
  rw [drop_at E (n + 1) (by omega), drop_at E (n + 1 + 1) (by omega), List.take_succ_cons, List.take_succ_cons, List.take_zero] at h
  injection h with a1 h
  injection h with a2 _
  exact ⟨a1, a2⟩

set_option maxRecDepth 4000 in
set_option maxHeartbeats 4000000 in
theorem restore_any (E : List UInt8) (g cap B : Nat) (w : World) (ho : w.ownsRow B 5 1 (.slice (some ⟨g, 0, none⟩) E.length cap) E.length (bcells E)) (hz : E.length ≤ 1000000) :
    Calls Try.prog 18 #[.slice (some ⟨g, 0, none⟩) E.length cap] w fun e w' => e = .returned (.string ⟨(restore E).toArray⟩) ∧ Below w.heap.size w w' := by
  obtain ⟨i0, hi, hz0, hz1, hz2⟩ := info_parts Try.info5
  have hg := (ho.lt g rfl).2
  have HC := hide (fun j h => own_cells ho j h)
  clear ho
  obtain ⟨w1, hmk, hown1, hgr⟩ := run_make_own (P := Try.prog) w w.heap.size 24 5 i0 (.int .u8 0) 1 Try.underlying24 hi hz0 hz1 .i64 .i64 E.length (by rw [hz2]; omega) (by unfold maxLen; omega) (Nat.le_refl _)
  have HB1 : Hid (Below w.heap.size w w1) := hide ((Below.refl w.heap.size w).grown hgr (Nat.le_refl _) (fun k h => by cases h))
  have HO1 := hide hown1
  clear hown1 hgr
  go_enter Try.func18, Try.ntmps18
  go_wp2_with fail
  clear hmk
  go_loopw [3, 4] (fun v i wr => ∃ n : Nat, ∃ O : List UInt8, n ≤ E.length ∧ O.length ≤ n ∧ Hid (O ++ restore (E.drop n) = restore E) ∧ Hid (wr.ownsRow w.heap.size 5 1 v O.length (bcells O)) ∧ i = .int .i64 (n : Nat) ∧ Below w.heap.size w wr) (fun _ i _ => E.length - (intOf i).toNat)
  case atStart => exact ⟨0, [], Nat.zero_le _, Nat.zero_le _, hide rfl, HO1, rfl, HB1.out⟩
  case round =>
    obtain ⟨n, O, hn, hOn, HR, HO, rfl, hbk⟩ := hrel
    have hbk1 := hbk.size
    by_cases hlt : n < E.length
    · have c0 : wr.cell? ⟨g, n, none⟩ = some (.int .u8 (E[n].toNat : Int)) := (hbk.cell (by exact hg)).trans (HC.out n hlt)
      by_cases hhit : E[n] = 37 ∧ (E.drop (n + 1)).take 2 = [50, 70]
      · obtain ⟨hn2, e1, e2⟩ := two_of hhit.2
        have c1 : wr.cell? ⟨g, n + 1, none⟩ = some (.int .u8 (E[n + 1].toNat : Int)) := (hbk.cell (by exact hg)).trans (HC.out (n + 1) (by omega))
        have c2 : wr.cell? ⟨g, n + 2, none⟩ = some (.int .u8 (E[n + 2].toNat : Int)) := (hbk.cell (by exact hg)).trans (HC.out (n + 2) (by omega))
        have HN := hide (step_hit hn2 hhit.1 e1 e2 HR.out)
        rw [hhit.1] at c0
        rw [e1] at c1
        rw [e2] at c2
        have FIN : Hid (∀ (v' : Value) (w1 : World), w1.ownsRow w.heap.size 5 1 v' (O.length + 1) (bcells O ++ [.int .u8 47]) → (wr.alloc (.cells #[.int .u8 47] 5)).grownBy w1 u3.ownBlock → Hid (w1.ownsRow w.heap.size 5 1 v' (O ++ [47]).length (bcells (O ++ [47])) ∧ Below w.heap.size w w1)) := hide fun v' w1 h1 h2 => hide ⟨own_keep (c := 47) rfl h1, (hbk.alloc hbk.size _).grown h2 (Nat.le_trans hbk.size (by simp)) (fun j hj => (HO.out.lt j hj).1)⟩
        clear hhit e1 e2 HR
        go_wp2_with (at_builtin; go_must (refine wpList_append_own _ rfl (.tmp 40) (.tmp 41) 24 rfl w.heap.size 5 i0 _ 1 1 Try.underlying24 hi hz0 hz1 hz2 rfl (by decide) _ _ _ rfl (HO.out.alloc _) ⟨wr.heap.size, 0, none⟩ 1 1 [.int .u8 47] rfl rfl (by have := news_alloc2 wr [.int .u8 47] 5; simpa using this) (one_oneCell _) (by unfold maxLen; omega) (by omega) (Nat.le_trans hbk1 (by simp)) ?_))
        intro v' w3 h1 h2 _
        have hF := FIN.out v' w3 h1 h2
        clear h1 h2 FIN HO c0 c1 c2
        go_wp2_with fail
        go_roundw
        case rel => exact ⟨n + 3, O ++ [47], by omega, by rw [List.length_append]; simp; omega, HN, hide hF.out.1, by go_num, hF.out.2⟩
        case measure => simp [intOf]; omega
      · have HN := hide (step_miss hlt hhit HR.out)
        have FIN : Hid (∀ (v' : Value) (w1 : World), w1.ownsRow w.heap.size 5 1 v' (O.length + 1) (bcells O ++ [.int .u8 (E[n].toNat : Int)]) → (wr.alloc (.cells #[.int .u8 (E[n].toNat : Int)] 5)).grownBy w1 u3.ownBlock → Hid (w1.ownsRow w.heap.size 5 1 v' (O ++ [E[n]]).length (bcells (O ++ [E[n]])) ∧ Below w.heap.size w w1)) := hide fun v' w1 h1 h2 => hide ⟨own_keep (c := E[n]) rfl h1, (hbk.alloc hbk.size _).grown h2 (Nat.le_trans hbk.size (by simp)) (fun j hj => (HO.out.lt j hj).1)⟩
        clear HR
        have hOL : (O ++ [E[n]]).length ≤ n + 1 := by rw [List.length_append]; simp; omega
        by_cases h0 : E[n] = 37
        · by_cases hn2 : n + 2 < E.length
          · have c1 : wr.cell? ⟨g, n + 1, none⟩ = some (.int .u8 (E[n + 1].toNat : Int)) := (hbk.cell (by exact hg)).trans (HC.out (n + 1) (by omega))
            have c2 : wr.cell? ⟨g, n + 2, none⟩ = some (.int .u8 (E[n + 2].toNat : Int)) := (hbk.cell (by exact hg)).trans (HC.out (n + 2) (by omega))
            have t0 : ((E[n].toNat : Int) == 37) = true := byte_is h0
            by_cases h1 : E[n + 1] = 50
            · have h2 : E[n + 2] ≠ 70 := fun h2 => hhit ⟨h0, by
                rw [drop_at E (n + 1) (by omega), drop_at E (n + 1 + 1) (by omega), List.take_succ_cons, List.take_succ_cons, List.take_zero, h1, show E[n + 1 + 1]'(by omega) = 70 from h2]⟩
              have t1 : ((E[n + 1].toNat : Int) == 50) = true := byte_is h1
              have t2 : ((E[n + 2].toNat : Int) == 70) = false := byte_ne (d := 70) h2
              clear hhit h0 h1 h2
              generalize (E[n].toNat : Int) = C at *
              generalize (E[n + 1].toNat : Int) = C1 at *
              generalize (E[n + 2].toNat : Int) = C2 at *
              go_wp2_with (at_builtin; go_must (refine wpList_append_own _ rfl (.tmp 45) (.tmp 50) 24 rfl w.heap.size 5 i0 _ 1 1 Try.underlying24 hi hz0 hz1 hz2 rfl (by decide) _ _ _ rfl (HO.out.alloc _) ⟨wr.heap.size, 0, none⟩ 1 1 [.int .u8 C] rfl rfl (by have := news_alloc2 wr [.int .u8 C] 5; simpa using this) (one_oneCell _) (by unfold maxLen; omega) (by omega) (Nat.le_trans hbk1 (by simp)) ?_))
              intro v' w3 h1 h2 _
              have hF := FIN.out v' w3 h1 h2
              clear h1 h2 FIN HO c0
              go_wp2_with fail
              go_roundw
              case rel => exact ⟨n + 1, O ++ [E[n]], by omega, hOL, HN, hide hF.out.1, by go_num, hF.out.2⟩
              case measure => simp [intOf]; omega
            · have t1 : ((E[n + 1].toNat : Int) == 50) = false := byte_ne (d := 50) h1
              clear hhit h0 h1
              generalize (E[n].toNat : Int) = C at *
              generalize (E[n + 1].toNat : Int) = C1 at *
              generalize (E[n + 2].toNat : Int) = C2 at *
              go_wp2_with (at_builtin; go_must (refine wpList_append_own _ rfl (.tmp 45) (.tmp 50) 24 rfl w.heap.size 5 i0 _ 1 1 Try.underlying24 hi hz0 hz1 hz2 rfl (by decide) _ _ _ rfl (HO.out.alloc _) ⟨wr.heap.size, 0, none⟩ 1 1 [.int .u8 C] rfl rfl (by have := news_alloc2 wr [.int .u8 C] 5; simpa using this) (one_oneCell _) (by unfold maxLen; omega) (by omega) (Nat.le_trans hbk1 (by simp)) ?_))
              intro v' w3 h1 h2 _
              have hF := FIN.out v' w3 h1 h2
              clear h1 h2 FIN HO c0
              go_wp2_with fail
              go_roundw
              case rel => exact ⟨n + 1, O ++ [E[n]], by omega, hOL, HN, hide hF.out.1, by go_num, hF.out.2⟩
              case measure => simp [intOf]; omega
          · have t0 : ((E[n].toNat : Int) == 37) = true := byte_is h0
            have t3 : decide ((n : Int) + 2 < (E.length : Int)) = false := decide_eq_false (by omega)
            clear hhit h0
            generalize (E[n].toNat : Int) = C at *
            go_wp2_with (at_builtin; go_must (refine wpList_append_own _ rfl (.tmp 45) (.tmp 50) 24 rfl w.heap.size 5 i0 _ 1 1 Try.underlying24 hi hz0 hz1 hz2 rfl (by decide) _ _ _ rfl (HO.out.alloc _) ⟨wr.heap.size, 0, none⟩ 1 1 [.int .u8 C] rfl rfl (by have := news_alloc2 wr [.int .u8 C] 5; simpa using this) (one_oneCell _) (by unfold maxLen; omega) (by omega) (Nat.le_trans hbk1 (by simp)) ?_))
            intro v' w3 h1 h2 _
            have hF := FIN.out v' w3 h1 h2
            clear h1 h2 FIN HO c0
            go_wp2_with fail
            go_roundw
            case rel => exact ⟨n + 1, O ++ [E[n]], by omega, hOL, HN, hide hF.out.1, by go_num, hF.out.2⟩
            case measure => simp [intOf]; omega
        · have t0 : ((E[n].toNat : Int) == 37) = false := byte_ne (d := 37) h0
          clear hhit h0
          generalize (E[n].toNat : Int) = C at *
          go_wp2_with (at_builtin; go_must (refine wpList_append_own _ rfl (.tmp 45) (.tmp 50) 24 rfl w.heap.size 5 i0 _ 1 1 Try.underlying24 hi hz0 hz1 hz2 rfl (by decide) _ _ _ rfl (HO.out.alloc _) ⟨wr.heap.size, 0, none⟩ 1 1 [.int .u8 C] rfl rfl (by have := news_alloc2 wr [.int .u8 C] 5; simpa using this) (one_oneCell _) (by unfold maxLen; omega) (by omega) (Nat.le_trans hbk1 (by simp)) ?_))
          intro v' w3 h1 h2 _
          have hF := FIN.out v' w3 h1 h2
          clear h1 h2 FIN HO c0
          go_wp2_with fail
          go_roundw
          case rel => exact ⟨n + 1, O ++ [E[n]], by omega, hOL, HN, hide hF.out.1, by go_num, hF.out.2⟩
          case measure => simp [intOf]; omega
    · obtain rfl : n = E.length := by omega
      have hR := HR.out
      rw [List.drop_length, restore_nil, List.append_nil] at hR
      have hcv := conv_own HO.out
      rw [hR] at hcv
      clear HO HR hR
      go_wp2_with fail
      go_ret
      exact ⟨rfl, hbk⟩

theorem restore_own (s : ByteArray) (hs : s.size ≤ 65536) (hpos : 0 < s.size) (v : Value) (B : Nat) (w : World) (ho : w.ownsRow B 5 1 v (esc false s.data.toList).length (bcells (esc false s.data.toList))) :
    Calls Try.prog 18 #[v] w fun e w' => e = .returned (.string ⟨(canon s.data.toList).toArray⟩) ∧ Below w.heap.size w w' := by
  have hl := esc_length false s.data.toList
  have hl2 : s.data.toList.length = s.size := by simp
  have hcn : canon s.data.toList = esc true s.data.toList := by
    unfold canon
    rw [if_neg (data_ne hpos)]
  rcases ho.2 with ⟨_, hn⟩ | ⟨g, cap, cur, rfl, _⟩
  · exact absurd (List.length_eq_zero_iff.1 hn) (esc_ne false (data_ne hpos))
  · have h := restore_any (esc false s.data.toList) g cap B w ho (by omega)
    rw [restore_esc, ← hcn] at h
    exact h
theorem decode_canon (s : ByteArray) (hs : s.size ≤ 65536) (hpos : 0 < s.size) (w : World) :
    Calls Try.prog 16 #[.string ⟨(canon s.data.toList).toArray⟩] w fun e w' => e = .returned (.tuple #[.string s, .bool true]) ∧ Below w.heap.size w w' := by
  have h := decode_esc true s hs w
  have hcn : canon s.data.toList = esc true s.data.toList := by
    unfold canon
    rw [if_neg (data_ne hpos)]
  rw [hcn]
  exact h

set_option maxHeartbeats 400000 in
theorem kept_long1 (s : ByteArray) (hn : s.size ≤ maxLen) (h : 1048576 < s.size) (w : World) :
    Calls Try.prog 7 #[.string s] w fun e w' => e = .returned (.bool true) ∧ Below w.heap.size w w' := by
  have H8 := hide (bytes17_no s hn h w)
  go_enter Try.func7, Try.ntmps7
  go_wp2_with fail
  refine H8.out.mono ?_
  clear H8
  rintro e w' ⟨rfl, rfl⟩
  go_wp2_with fail
  go_ret
  exact ⟨rfl, Below.refl _ _⟩
set_option maxHeartbeats 400000 in
theorem kept_long2 (s : ByteArray) (hn : s.size ≤ 1048576) (h : 65536 < s.size) (w : World) :
    Calls Try.prog 7 #[.string s] w fun e w' => e = .returned (.bool true) ∧ Below w.heap.size w w' := by
  have H8 := hide (bytes17_yes s hn w)
  go_enter Try.func7, Try.ntmps7
  go_wp2_with fail
  refine H8.out.mono ?_
  clear H8
  rintro e w' ⟨rfl, rfl⟩
  go_wp2_with fail
  go_ret
  exact ⟨rfl, Below.refl _ _⟩
set_option maxHeartbeats 1000000 in
theorem kept_none (s : ByteArray) (hz : s.size = 0) (w : World) :
    Calls Try.prog 7 #[.string s] w fun e w' => e = .returned (.bool true) ∧ Below w.heap.size w w' := by
  have hs : s.size ≤ 65536 := by omega
  have H8 := hide (bytes17_yes s (by omega) w)
  have HC := hide (zzCanon_any s w hs)
  have hem := empty_is hz
  rw [data_nil hz, show canon [] = [47] from rfl] at HC
  clear hz
  go_enter Try.func7, Try.ntmps7
  go_wp2_with fail
  refine H8.out.mono ?_
  clear H8
  rintro e w' ⟨rfl, rfl⟩
  go_wp2_with fail
  refine HC.out.mono ?_
  clear HC
  rintro e w2 ⟨rfl, hb⟩
  go_wp2_with fail
  go_ret
  exact ⟨rfl, hb⟩
set_option maxHeartbeats 1000000 in
theorem kept_some (s : ByteArray) (hs : s.size ≤ 65536) (hpos : 0 < s.size) (w : World) :
    Calls Try.prog 7 #[.string s] w fun e w' => e = .returned (.bool true) ∧ Below w.heap.size w w' := by
  have H8 := hide (bytes17_yes s (by omega) w)
  have HC := hide (zzCanon_any s w hs)
  have hem := empty_ne hpos
  have HR := hide (restore_own s hs hpos)
  have HD := hide (fun (w2 : World) => decode_canon s hs hpos w2)
  have HE := hide (fun (w2 : World) => zzEscape_any s false w2 hs)
  generalize canon s.data.toList = E at *
  generalize bcells (esc false s.data.toList) = F at *
  generalize (esc false s.data.toList).length = N at *
  go_enter Try.func7, Try.ntmps7
  go_wp2_with fail
  refine H8.out.mono ?_
  clear H8
  rintro e w' ⟨rfl, rfl⟩
  go_wp2_with fail
  refine HC.out.mono ?_
  clear HC
  rintro e w2 ⟨rfl, hb⟩
  go_wp2_with fail
  refine (HE.out w2).mono ?_
  clear HE
  rintro e w3 ⟨v', rfl, ho, hb3⟩
  have HR3 := hide (HR.out v' _ w3 ho)
  clear HR ho
  go_wp2_with fail
  refine HR3.out.mono ?_
  clear HR3
  rintro e w4 ⟨rfl, hb4⟩
  go_wp2_with fail
  refine (HD.out w4).mono ?_
  clear HD
  rintro e w5 ⟨rfl, hb5⟩
  go_wp2_with fail
  go_ret
  have b3 := hb.trans (hb3.mono hb.size)
  have b4 := b3.trans (hb4.mono b3.size)
  exact ⟨rfl, b4.trans (hb5.mono b4.size)⟩

theorem kept_walk (s : ByteArray) (hn : s.size ≤ maxLen) (w : World) :
    Calls Try.prog 7 #[.string s] w fun e w' => e = .returned (.bool true) ∧ Below w.heap.size w w' := by
  by_cases h1 : 1048576 < s.size
  · exact kept_long1 s hn h1 w
  by_cases h2 : 65536 < s.size
  · exact kept_long2 s (by omega) h2 w
  by_cases h3 : s.size = 0
  · exact kept_none s h3 w
  exact kept_some s (by omega) (by omega) w
end Go.Proofs.Qxb6617851a

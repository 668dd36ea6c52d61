import Derived.Test.Qxb6617851aRows
import Derived.WalkKit
import Derived.WalkSpells
import Derived.WalkLawsBesides
import Derived.Deep.RegionHeld3
import Derived.Deep.DrawnRows
import Derived.Deep.AppendLies
namespace Go.Proofs.Qxb6617851a
open Go.RowKit
attribute [local go_sem ↓] Go.wp_at_zero Go.wp_at_succ

theorem hide {p : Prop} (h : p) : Hid p := h

/-- a hex digit's value -/
def hexV (x : Int) : Int := if 48 ≤ x ∧ x ≤ 57 then x - 48 else if 97 ≤ x ∧ x ≤ 102 then x - 87 else if 65 ≤ x ∧ x ≤ 70 then x - 55 else 0
def hexOK (x : Int) : Bool := decide ((48 ≤ x ∧ x ≤ 57) ∨ (97 ≤ x ∧ x ≤ 102) ∨ (65 ≤ x ∧ x ≤ 70))

theorem ret_hex {a b : Int} {p q : Bool} (h : a = b) (k : p = q) : Ending.returned (.tuple #[.int .u8 a, .bool p]) = .returned (.tuple #[.int .u8 b, .bool q]) := by rw [h, k]

set_option maxHeartbeats 400000 in
theorem hexDigit_any (x : Int) (h0 : 0 ≤ x) (h1 : x ≤ 255) (w : World) :
    Calls Try.prog 22 #[.int .u8 x] w fun e w' => e = .returned (.tuple #[.int .u8 (hexV x), .bool (hexOK x)]) ∧ w = w' := by
  generalize hv : hexV x = V
  generalize hk : hexOK x = K
  have HV := hide hv
  have HK := hide hk
  clear hv hk
  go_enter Try.func22, Try.ntmps22
  go_wp2
  all_goals
    go_ret2
    refine ⟨ret_hex ?_ ?_, rfl⟩
    · rw [← HV.out]
      unfold hexV
      split
      · omega
      · split
        · omega
        · split <;> omega
    · rw [← HK.out]
      unfold hexOK
      first
        | exact (decide_eq_true (by omega)).symm
        | exact (decide_eq_false (by omega)).symm

set_option maxHeartbeats 400000 in
theorem zzHexDigit_any (x : Int) (h0 : 0 ≤ x) (h1 : x ≤ 255) (w : World) :
    Calls Try.prog 14 #[.int .u8 x] w fun e w' => e = .returned (.tuple #[.int .u8 (hexV x), .bool (hexOK x)]) ∧ w = w' := by
  have H := hexDigit_any x h0 h1 w
  generalize hexV x = V at *
  generalize hexOK x = K at *
  go_enter Try.func14, Try.ntmps14
  go_wp2_with (go_at_call 22; refine H.mono ?_; clear H; rintro e w' ⟨rfl, rfl⟩)
  go_ret2
  exact ⟨rfl, rfl⟩

/-- bytes as cells -/
def bcells (l : List UInt8) : List Value := l.map fun c : UInt8 => Value.int .u8 (c.toNat : Int)

theorem bcells_length (l : List UInt8) : (bcells l).length = l.length := by simp [bcells]
theorem bcells_append (a b : List UInt8) : bcells (a ++ b) = bcells a ++ bcells b := by simp [bcells]
theorem bcells_oneCell (l : List UInt8) : ∀ u ∈ bcells l, u.oneCell' = true := by
  intro u hu
  obtain ⟨c, _, rfl⟩ := List.mem_map.1 hu
  rfl

/-- an upper-case hex digit -/
def hexU (n : Nat) : UInt8 := UInt8.ofNat (if n < 10 then 48 + n else 55 + n)
/-- is the byte written as it is? -/
def keepB (ks : Bool) (c : UInt8) : Bool :=
  decide (65 ≤ c.toNat ∧ c.toNat ≤ 90) || decide (97 ≤ c.toNat ∧ c.toNat ≤ 122) || decide (48 ≤ c.toNat ∧ c.toNat ≤ 57) || decide (c.toNat = 45) || decide (c.toNat = 95) || decide (c.toNat = 46) || decide (c.toNat = 126) || (decide (c.toNat = 47) && ks)
def escB (ks : Bool) (c : UInt8) : List UInt8 := if keepB ks c = true then [c] else [37, hexU (c.toNat / 16), hexU (c.toNat % 16)]
def esc (ks : Bool) (l : List UInt8) : List UInt8 := l.flatMap (escB ks)

theorem escB_length (ks : Bool) (c : UInt8) : (escB ks c).length ≤ 3 := by unfold escB; split <;> simp
theorem esc_length (ks : Bool) (l : List UInt8) : (esc ks l).length ≤ 3 * l.length := by
  induction l with
  | nil => simp [esc]
  | cons c l ih =>
    have := escB_length ks c
    simp only [esc, List.flatMap_cons, List.length_append, List.length_cons] at ih ⊢
    omega

/-- so far -/
def escTo (ks : Bool) (s : ByteArray) (k : Nat) : List UInt8 := esc ks (s.data.toList.take k)
theorem escTo_succ (ks : Bool) (s : ByteArray) (k : Nat) (h : k < s.size) : escTo ks s (k + 1) = escTo ks s k ++ escB ks s[k] := by
  unfold escTo
  rw [List.take_succ_eq_append_getElem (by simpa using h)]
  simp only [esc, List.flatMap_append, List.flatMap_cons, List.flatMap_nil, List.append_nil]
  rfl
theorem escTo_length (ks : Bool) (s : ByteArray) (k : Nat) : (escTo ks s k).length ≤ 3 * k := by
  have h1 := esc_length ks (s.data.toList.take k)
  have h2 := List.length_take_le k s.data.toList
  unfold escTo
  omega

theorem Try.info5 : (Try.prog.info? 5).map (fun i => (i.zero, i.size, i.bytes)) = some (some (.int .u8 0), 1, 1) := by kernel_rfl

/-- the hex digits' string, looked into -/
theorem hexAt (n : Nat) (h : n < 16) (w : World) : (Instr.index 9 (.string ⟨#[48, 49, 50, 51, 52, 53, 54, 55, 56, 57, 65, 66, 67, 68, 69, 70]⟩) (.int .u8 (n : Int))).run Try.prog w = .ok (.int .u8 ((hexU n).toNat : Int)) w := by
  rcases (by omega : n = 0 ∨ n = 1 ∨ n = 2 ∨ n = 3 ∨ n = 4 ∨ n = 5 ∨ n = 6 ∨ n = 7 ∨ n = 8 ∨ n = 9 ∨ n = 10 ∨ n = 11 ∨ n = 12 ∨ n = 13 ∨ n = 14 ∨ n = 15) with rfl | rfl | rfl | rfl | rfl | rfl | rfl | rfl | rfl | rfl | rfl | rfl | rfl | rfl | rfl | rfl <;> (clear h; kernel_rfl)

theorem escB_keep (ks : Bool) (c : UInt8) (h : (65 ≤ (c.toNat : Int) ∧ (c.toNat : Int) ≤ 90) ∨ (97 ≤ (c.toNat : Int) ∧ (c.toNat : Int) ≤ 122) ∨ (48 ≤ (c.toNat : Int) ∧ (c.toNat : Int) ≤ 57) ∨ (c.toNat : Int) = 45 ∨ (c.toNat : Int) = 95 ∨ (c.toNat : Int) = 46 ∨ (c.toNat : Int) = 126 ∨ ((c.toNat : Int) = 47 ∧ ks = true)) : escB ks c = [c] := by
  have hk : keepB ks c = true := by
    unfold keepB
    simp only [Bool.or_eq_true, Bool.and_eq_true, decide_eq_true_eq]
    rcases h with h | h | h | h | h | h | h | ⟨h, h'⟩
    · exact .inl (.inl (.inl (.inl (.inl (.inl (.inl ⟨by omega, by omega⟩))))))
    · exact .inl (.inl (.inl (.inl (.inl (.inl (.inr ⟨by omega, by omega⟩))))))
    · exact .inl (.inl (.inl (.inl (.inl (.inr ⟨by omega, by omega⟩)))))
    · exact .inl (.inl (.inl (.inl (.inr (by omega)))))
    · exact .inl (.inl (.inl (.inr (by omega))))
    · exact .inl (.inl (.inr (by omega)))
    · exact .inl (.inr (by omega))
    · exact .inr ⟨by omega, h'⟩
  rw [escB, if_pos hk]

theorem escB_hex (ks : Bool) (c : UInt8) (h : (c.toNat : Int) ≤ 44 ∨ ((c.toNat : Int) = 47 ∧ ks = false) ∨ (58 ≤ (c.toNat : Int) ∧ (c.toNat : Int) ≤ 64) ∨ (91 ≤ (c.toNat : Int) ∧ (c.toNat : Int) ≤ 94) ∨ (c.toNat : Int) = 96 ∨ (123 ≤ (c.toNat : Int) ∧ (c.toNat : Int) ≤ 125) ∨ 127 ≤ (c.toNat : Int)) :
    escB ks c = [37, hexU (c.toNat / 16), hexU (c.toNat % 16)] := by
  have hk : ¬ keepB ks c = true := by
    unfold keepB
    simp only [Bool.or_eq_true, Bool.and_eq_true, decide_eq_true_eq]
    rcases h with h | ⟨h, h'⟩ | h | h | h | h | h
    · omega
    · rw [h']
      simp only [Bool.false_eq_true, and_false, or_false]
      omega
    all_goals omega
  rw [escB, if_neg hk]

theorem own_keep {w : World} {B : Nat} {v : Value} {E F : List UInt8} {c : UInt8} (hF : F = E ++ [c]) (h : w.ownsRow B 5 1 v (E.length + 1) (bcells E ++ [.int .u8 (c.toNat : Int)])) : w.ownsRow B 5 1 v F.length (bcells F) := by
  rw [hF, bcells_append, List.length_append]
  exact h
theorem own_hex {w : World} {B : Nat} {v : Value} {E F : List UInt8} {a b : UInt8} (hF : F = E ++ [37, a, b]) (h : w.ownsRow B 5 1 v (E.length + 3) (bcells E ++ [.int .u8 37, .int .u8 (a.toNat : Int), .int .u8 (b.toNat : Int)])) : w.ownsRow B 5 1 v F.length (bcells F) := by
  rw [hF, bcells_append, List.length_append]
  exact h

theorem one_oneCell (x : Int) : ∀ u ∈ [Value.int .u8 x], u.oneCell' = true := by
  intro u hu
  simp at hu
  subst hu
  rfl

theorem news_alloc2 (w : World) (cs : List Value) (e : TypeId) : ∀ j u, cs[j]? = some u → (w.alloc (.cells cs.toArray e)).cell? ((⟨w.heap.size, 0, none⟩ : Addr).add j) = some u := by
  intro j u hu
  rw [Addr.add_lit, Nat.zero_add, cell_of_row _ _ _ _ _ _ (heap_alloc_new w _)]
  simpa using hu

set_option maxHeartbeats 4000000 in
theorem escape_any (s : ByteArray) (ks : Bool) (w : World) (hs : s.size ≤ 65536) :
    Calls Try.prog 20 #[.slice none 0 0, .string s, .bool ks] w fun e w' => ∃ v', e = .returned v' ∧ w'.ownsRow w.heap.size 5 1 v' (esc ks s.data.toList).length (bcells (esc ks s.data.toList)) ∧ Below w.heap.size w w' := by
  obtain ⟨i0, hi, hz0, hz1, hz2⟩ := info_parts Try.info5
  go_enter Try.func20, Try.ntmps20
  go_wp2_with fail
  go_loopw [0, 7] (fun v i wr => ∃ k : Nat, k ≤ s.size ∧ i = .int .i64 k ∧ wr.ownsRow w.heap.size 5 1 v (escTo ks s k).length (bcells (escTo ks s k)) ∧ Below w.heap.size w wr) (fun _ i _ => s.size - (intOf i).toNat)
  case atStart => exact ⟨0, Nat.zero_le _, rfl, World.ownsRow_nil _ _ _ _, Below.refl _ _⟩
  case round =>
    obtain ⟨k, hk, rfl, hown, hbk⟩ := hrel
    have HO := hide hown
    clear hown
    have hlen := escTo_length ks s k
    have hbk1 := hbk.size
    by_cases hlt : k < s.size
    · have HS := hide (escTo_succ ks s k hlt)
      have hx0 : (0 : Int) ≤ (s[k].toNat : Int) := by omega
      have hx1 : (s[k].toNat : Int) ≤ 255 := by have := s[k].toNat_lt; omega
      by_cases hkeep : (65 ≤ (s[k].toNat : Int) ∧ (s[k].toNat : Int) ≤ 90) ∨ (97 ≤ (s[k].toNat : Int) ∧ (s[k].toNat : Int) ≤ 122) ∨ (48 ≤ (s[k].toNat : Int) ∧ (s[k].toNat : Int) ≤ 57) ∨ (s[k].toNat : Int) = 45 ∨ (s[k].toNat : Int) = 95 ∨ (s[k].toNat : Int) = 46 ∨ (s[k].toNat : Int) = 126 ∨ ((s[k].toNat : Int) = 47 ∧ ks = true)
      · have HF : Hid (escTo ks s (k + 1) = escTo ks s k ++ [s[k]]) := hide (by rw [HS.out, escB_keep ks s[k] hkeep])
        clear HS
        have fin : ∀ (v' : Value) (w1 : World), w1.ownsRow w.heap.size 5 1 v' ((escTo ks s k).length + 1) (bcells (escTo ks s k) ++ [.int .u8 (s[k].toNat : Int)]) → (wr.alloc (.cells #[.int .u8 (s[k].toNat : Int)] 5)).grownBy w1 u0.ownBlock → Hid (w1.ownsRow w.heap.size 5 1 v' (escTo ks s (k + 1)).length (bcells (escTo ks s (k + 1))) ∧ Below w.heap.size w w1) := fun v' w1 h1 h2 => hide ⟨own_keep HF.out h1, (hbk.alloc hbk.size _).grown h2 (Nat.le_trans hbk.size (by simp)) (fun j hj => (HO.out.lt j hj).1)⟩
        have FIN := hide fin
        clear fin
        rcases hkeep with ⟨c1, c2⟩ | ⟨c1, c2⟩ | ⟨c1, c2⟩ | c1 | c1 | c1 | c1 | ⟨c1, c2⟩
        · clear hx0
          have hx0 : (0 : Int) ≤ (s[k].toNat : Int) := by omega
          go_wp2_with (at_builtin; go_must (refine wpList_append_own _ rfl (.tmp 59) (.tmp 61) 24 rfl w.heap.size 5 i0 _ 1 1 Try.underlying24 hi hz0 hz1 hz2 rfl (by decide) _ _ _ rfl (HO.out.alloc _) ⟨wr.heap.size, 0, none⟩ 1 1 [.int .u8 (s[k].toNat : Int)] rfl rfl (by have := news_alloc2 wr [.int .u8 (s[k].toNat : Int)] 5; simpa using this) (one_oneCell _) (by unfold maxLen; omega) (by omega) (Nat.le_trans hbk1 (by simp)) ?_))
          intro v' w1 h1 h2 _
          have hF := FIN.out v' w1 h1 h2
          clear h1 h2 FIN HO
          go_wp2_with fail
          go_roundw
          case rel => exact ⟨k + 1, by omega, by go_num, hF.out.1, hF.out.2⟩
          case measure => simp [intOf]; omega
        · clear hx0
          have hx0 : (0 : Int) ≤ (s[k].toNat : Int) := by omega
          go_wp2_with (at_builtin; go_must (refine wpList_append_own _ rfl (.tmp 59) (.tmp 61) 24 rfl w.heap.size 5 i0 _ 1 1 Try.underlying24 hi hz0 hz1 hz2 rfl (by decide) _ _ _ rfl (HO.out.alloc _) ⟨wr.heap.size, 0, none⟩ 1 1 [.int .u8 (s[k].toNat : Int)] rfl rfl (by have := news_alloc2 wr [.int .u8 (s[k].toNat : Int)] 5; simpa using this) (one_oneCell _) (by unfold maxLen; omega) (by omega) (Nat.le_trans hbk1 (by simp)) ?_))
          intro v' w1 h1 h2 _
          have hF := FIN.out v' w1 h1 h2
          clear h1 h2 FIN HO
          go_wp2_with fail
          go_roundw
          case rel => exact ⟨k + 1, by omega, by go_num, hF.out.1, hF.out.2⟩
          case measure => simp [intOf]; omega
        · clear hx0
          have hx0 : (0 : Int) ≤ (s[k].toNat : Int) := by omega
          go_wp2_with (at_builtin; go_must (refine wpList_append_own _ rfl (.tmp 59) (.tmp 61) 24 rfl w.heap.size 5 i0 _ 1 1 Try.underlying24 hi hz0 hz1 hz2 rfl (by decide) _ _ _ rfl (HO.out.alloc _) ⟨wr.heap.size, 0, none⟩ 1 1 [.int .u8 (s[k].toNat : Int)] rfl rfl (by have := news_alloc2 wr [.int .u8 (s[k].toNat : Int)] 5; simpa using this) (one_oneCell _) (by unfold maxLen; omega) (by omega) (Nat.le_trans hbk1 (by simp)) ?_))
          intro v' w1 h1 h2 _
          have hF := FIN.out v' w1 h1 h2
          clear h1 h2 FIN HO
          go_wp2_with fail
          go_roundw
          case rel => exact ⟨k + 1, by omega, by go_num, hF.out.1, hF.out.2⟩
          case measure => simp [intOf]; omega
        · have c1a := Int.le_of_eq c1
          have c1b := Int.le_of_eq c1.symm
          clear c1
          go_wp2_with (at_builtin; go_must (refine wpList_append_own _ rfl (.tmp 59) (.tmp 61) 24 rfl w.heap.size 5 i0 _ 1 1 Try.underlying24 hi hz0 hz1 hz2 rfl (by decide) _ _ _ rfl (HO.out.alloc _) ⟨wr.heap.size, 0, none⟩ 1 1 [.int .u8 (s[k].toNat : Int)] rfl rfl (by have := news_alloc2 wr [.int .u8 (s[k].toNat : Int)] 5; simpa using this) (one_oneCell _) (by unfold maxLen; omega) (by omega) (Nat.le_trans hbk1 (by simp)) ?_))
          intro v' w1 h1 h2 _
          have hF := FIN.out v' w1 h1 h2
          clear h1 h2 FIN HO
          go_wp2_with fail
          go_roundw
          case rel => exact ⟨k + 1, by omega, by go_num, hF.out.1, hF.out.2⟩
          case measure => simp [intOf]; omega
        · have c1a := Int.le_of_eq c1
          have c1b := Int.le_of_eq c1.symm
          clear c1
          go_wp2_with (at_builtin; go_must (refine wpList_append_own _ rfl (.tmp 59) (.tmp 61) 24 rfl w.heap.size 5 i0 _ 1 1 Try.underlying24 hi hz0 hz1 hz2 rfl (by decide) _ _ _ rfl (HO.out.alloc _) ⟨wr.heap.size, 0, none⟩ 1 1 [.int .u8 (s[k].toNat : Int)] rfl rfl (by have := news_alloc2 wr [.int .u8 (s[k].toNat : Int)] 5; simpa using this) (one_oneCell _) (by unfold maxLen; omega) (by omega) (Nat.le_trans hbk1 (by simp)) ?_))
          intro v' w1 h1 h2 _
          have hF := FIN.out v' w1 h1 h2
          clear h1 h2 FIN HO
          go_wp2_with fail
          go_roundw
          case rel => exact ⟨k + 1, by omega, by go_num, hF.out.1, hF.out.2⟩
          case measure => simp [intOf]; omega
        · have c1a := Int.le_of_eq c1
          have c1b := Int.le_of_eq c1.symm
          clear c1
          go_wp2_with (at_builtin; go_must (refine wpList_append_own _ rfl (.tmp 59) (.tmp 61) 24 rfl w.heap.size 5 i0 _ 1 1 Try.underlying24 hi hz0 hz1 hz2 rfl (by decide) _ _ _ rfl (HO.out.alloc _) ⟨wr.heap.size, 0, none⟩ 1 1 [.int .u8 (s[k].toNat : Int)] rfl rfl (by have := news_alloc2 wr [.int .u8 (s[k].toNat : Int)] 5; simpa using this) (one_oneCell _) (by unfold maxLen; omega) (by omega) (Nat.le_trans hbk1 (by simp)) ?_))
          intro v' w1 h1 h2 _
          have hF := FIN.out v' w1 h1 h2
          clear h1 h2 FIN HO
          go_wp2_with fail
          go_roundw
          case rel => exact ⟨k + 1, by omega, by go_num, hF.out.1, hF.out.2⟩
          case measure => simp [intOf]; omega
        · have c1a := Int.le_of_eq c1
          have c1b := Int.le_of_eq c1.symm
          clear c1
          go_wp2_with (at_builtin; go_must (refine wpList_append_own _ rfl (.tmp 59) (.tmp 61) 24 rfl w.heap.size 5 i0 _ 1 1 Try.underlying24 hi hz0 hz1 hz2 rfl (by decide) _ _ _ rfl (HO.out.alloc _) ⟨wr.heap.size, 0, none⟩ 1 1 [.int .u8 (s[k].toNat : Int)] rfl rfl (by have := news_alloc2 wr [.int .u8 (s[k].toNat : Int)] 5; simpa using this) (one_oneCell _) (by unfold maxLen; omega) (by omega) (Nat.le_trans hbk1 (by simp)) ?_))
          intro v' w1 h1 h2 _
          have hF := FIN.out v' w1 h1 h2
          clear h1 h2 FIN HO
          go_wp2_with fail
          go_roundw
          case rel => exact ⟨k + 1, by omega, by go_num, hF.out.1, hF.out.2⟩
          case measure => simp [intOf]; omega
        · have c1a := Int.le_of_eq c1
          have c1b := Int.le_of_eq c1.symm
          have cb : ((s[k].toNat : Int) == 47) = true := by rw [beq_iff_eq]; exact c1
          clear c1
          subst c2
          go_wp2_with (at_builtin; go_must (refine wpList_append_own _ rfl (.tmp 59) (.tmp 61) 24 rfl w.heap.size 5 i0 _ 1 1 Try.underlying24 hi hz0 hz1 hz2 rfl (by decide) _ _ _ rfl (HO.out.alloc _) ⟨wr.heap.size, 0, none⟩ 1 1 [.int .u8 (s[k].toNat : Int)] rfl rfl (by have := news_alloc2 wr [.int .u8 (s[k].toNat : Int)] 5; simpa using this) (one_oneCell _) (by unfold maxLen; omega) (by omega) (Nat.le_trans hbk1 (by simp)) ?_))
          intro v' w1 h1 h2 _
          have hF := FIN.out v' w1 h1 h2
          clear h1 h2 FIN HO
          go_wp2_with fail
          go_roundw
          case rel => exact ⟨k + 1, by omega, by go_num, hF.out.1, hF.out.2⟩
          case measure => simp [intOf]; omega
      · have HF : Hid (escTo ks s (k + 1) = escTo ks s k ++ [37, hexU (s[k].toNat / 16), hexU (s[k].toNat % 16)]) := hide (by
          rw [HS.out, escB_hex ks s[k] (by cases ks <;> simp at hkeep ⊢ <;> omega)])
        clear HS
        have hoth : (s[k].toNat : Int) ≤ 44 ∨ ((s[k].toNat : Int) = 47 ∧ ks = false) ∨ (58 ≤ (s[k].toNat : Int) ∧ (s[k].toNat : Int) ≤ 64) ∨ (91 ≤ (s[k].toNat : Int) ∧ (s[k].toNat : Int) ≤ 94) ∨ (s[k].toNat : Int) = 96 ∨ (123 ≤ (s[k].toNat : Int) ∧ (s[k].toNat : Int) ≤ 125) ∨ 127 ≤ (s[k].toNat : Int) := by
          cases ks <;> simp at hkeep ⊢ <;> omega
        clear hkeep
        have hhi : ∀ wx, (Instr.index 9 (.string ⟨#[48, 49, 50, 51, 52, 53, 54, 55, 56, 57, 65, 66, 67, 68, 69, 70]⟩) (.int .u8 ((s[k].toNat : Int) / 16))).run Try.prog wx = .ok (.int .u8 ((hexU (s[k].toNat / 16)).toNat : Int)) wx := fun wx => hexAt (s[k].toNat / 16) (by omega) wx
        have hlo : ∀ wx, (Instr.index 9 (.string ⟨#[48, 49, 50, 51, 52, 53, 54, 55, 56, 57, 65, 66, 67, 68, 69, 70]⟩) (.int .u8 ((s[k].toNat : Int) % 16))).run Try.prog wx = .ok (.int .u8 ((hexU (s[k].toNat % 16)).toNat : Int)) wx := fun wx => hexAt (s[k].toNat % 16) (by omega) wx
        have hand : bits .and .u8 (s[k].toNat : Int) 15 = (s[k].toNat : Int) % 16 := u8_and15 _ hx0 (by omega)
        have fin : ∀ (v' : Value) (w1 : World), w1.ownsRow w.heap.size 5 1 v' ((escTo ks s k).length + 3) (bcells (escTo ks s k) ++ [.int .u8 37, .int .u8 ((hexU (s[k].toNat / 16)).toNat : Int), .int .u8 ((hexU (s[k].toNat % 16)).toNat : Int)]) → (wr.alloc (.cells #[.int .u8 37, .int .u8 ((hexU (s[k].toNat / 16)).toNat : Int), .int .u8 ((hexU (s[k].toNat % 16)).toNat : Int)] 5)).drew.grownBy w1 u0.ownBlock → Hid (w1.ownsRow w.heap.size 5 1 v' (escTo ks s (k + 1)).length (bcells (escTo ks s (k + 1))) ∧ Below w.heap.size w w1) := fun v' w1 h1 h2 => hide ⟨own_hex HF.out h1, (hbk.alloc hbk.size _).drew.grown h2 (Nat.le_trans hbk.size (by simp)) (fun j hj => (HO.out.lt j hj).1)⟩
        have FIN := hide fin
        clear fin HF
        generalize ((hexU (s[k].toNat / 16)).toNat : Int) = A at *
        generalize ((hexU (s[k].toNat % 16)).toNat : Int) = B at *
        rcases hoth with c1 | ⟨c1, c2⟩ | ⟨c1, c2⟩ | ⟨c1, c2⟩ | c1 | ⟨c1, c2⟩ | c1
        · have cb : ((s[k].toNat : Int) == 47) = false := by rw [beq_eq_false_iff_ne]; omega
          go_wp2_with fail
          go_region_held3 (fun _ => True) (trivial)
            ((refine step_append_lies _ (by rfl) _ _ _ (by rfl) w.heap.size 5 i0 _ 1 1 Try.underlying24 hi hz0 hz1 hz2 rfl (by omega) u0 (escTo ks s k).length (bcells (escTo ks s k)) (by rfl) ((HO.out.alloc _).drew) ⟨wr.heap.size, 0, none⟩ 3 3 [.int .u8 37, .int .u8 A, .int .u8 B] (by rfl) (by rfl) (World.news_of_block (cs := #[.int .u8 37, .int .u8 A, .int .u8 B]) (t := 5) (fr := (0, 0)) (heap_alloc_new wr _)) (by simp [Value.oneCell']) (by omega) (by unfold maxLen; omega) (by omega) (by simp; omega) (wr.heap.size + 1) (by simp) ?_; intro g cap w1 hown1 hgrow hat hlt1))
          all_goals
            have hF := FIN.out _ w1 hown1 hgrow
            clear hown1 hgrow hat hlt1 FIN HO hhi hlo hand
            go_wp2_with fail
            go_roundw
            case rel => exact ⟨k + 1, by omega, by go_num, hF.out.1, hF.out.2⟩
            case measure => simp [intOf]; omega
        · have c1a := Int.le_of_eq c1
          have c1b := Int.le_of_eq c1.symm
          have cb : ((s[k].toNat : Int) == 47) = true := by rw [beq_iff_eq]; exact c1
          clear c1
          subst c2
          go_wp2_with fail
          go_region_held3 (fun _ => True) (trivial)
            ((refine step_append_lies _ (by rfl) _ _ _ (by rfl) w.heap.size 5 i0 _ 1 1 Try.underlying24 hi hz0 hz1 hz2 rfl (by omega) u0 (escTo false s k).length (bcells (escTo false s k)) (by rfl) ((HO.out.alloc _).drew) ⟨wr.heap.size, 0, none⟩ 3 3 [.int .u8 37, .int .u8 A, .int .u8 B] (by rfl) (by rfl) (World.news_of_block (cs := #[.int .u8 37, .int .u8 A, .int .u8 B]) (t := 5) (fr := (0, 0)) (heap_alloc_new wr _)) (by simp [Value.oneCell']) (by omega) (by unfold maxLen; omega) (by omega) (by simp; omega) (wr.heap.size + 1) (by simp) ?_; intro g cap w1 hown1 hgrow hat hlt1))
          all_goals
            have hF := FIN.out _ w1 hown1 hgrow
            clear hown1 hgrow hat hlt1 FIN HO hhi hlo hand
            go_wp2_with fail
            go_roundw
            case rel => exact ⟨k + 1, by omega, by go_num, hF.out.1, hF.out.2⟩
            case measure => simp [intOf]; omega
        · have cb : ((s[k].toNat : Int) == 47) = false := by rw [beq_eq_false_iff_ne]; omega
          go_wp2_with fail
          go_region_held3 (fun _ => True) (trivial)
            ((refine step_append_lies _ (by rfl) _ _ _ (by rfl) w.heap.size 5 i0 _ 1 1 Try.underlying24 hi hz0 hz1 hz2 rfl (by omega) u0 (escTo ks s k).length (bcells (escTo ks s k)) (by rfl) ((HO.out.alloc _).drew) ⟨wr.heap.size, 0, none⟩ 3 3 [.int .u8 37, .int .u8 A, .int .u8 B] (by rfl) (by rfl) (World.news_of_block (cs := #[.int .u8 37, .int .u8 A, .int .u8 B]) (t := 5) (fr := (0, 0)) (heap_alloc_new wr _)) (by simp [Value.oneCell']) (by omega) (by unfold maxLen; omega) (by omega) (by simp; omega) (wr.heap.size + 1) (by simp) ?_; intro g cap w1 hown1 hgrow hat hlt1))
          all_goals
            have hF := FIN.out _ w1 hown1 hgrow
            clear hown1 hgrow hat hlt1 FIN HO hhi hlo hand
            go_wp2_with fail
            go_roundw
            case rel => exact ⟨k + 1, by omega, by go_num, hF.out.1, hF.out.2⟩
            case measure => simp [intOf]; omega
        · have cb : ((s[k].toNat : Int) == 47) = false := by rw [beq_eq_false_iff_ne]; omega
          go_wp2_with fail
          go_region_held3 (fun _ => True) (trivial)
            ((refine step_append_lies _ (by rfl) _ _ _ (by rfl) w.heap.size 5 i0 _ 1 1 Try.underlying24 hi hz0 hz1 hz2 rfl (by omega) u0 (escTo ks s k).length (bcells (escTo ks s k)) (by rfl) ((HO.out.alloc _).drew) ⟨wr.heap.size, 0, none⟩ 3 3 [.int .u8 37, .int .u8 A, .int .u8 B] (by rfl) (by rfl) (World.news_of_block (cs := #[.int .u8 37, .int .u8 A, .int .u8 B]) (t := 5) (fr := (0, 0)) (heap_alloc_new wr _)) (by simp [Value.oneCell']) (by omega) (by unfold maxLen; omega) (by omega) (by simp; omega) (wr.heap.size + 1) (by simp) ?_; intro g cap w1 hown1 hgrow hat hlt1))
          all_goals
            have hF := FIN.out _ w1 hown1 hgrow
            clear hown1 hgrow hat hlt1 FIN HO hhi hlo hand
            go_wp2_with fail
            go_roundw
            case rel => exact ⟨k + 1, by omega, by go_num, hF.out.1, hF.out.2⟩
            case measure => simp [intOf]; omega
        · have c1a := Int.le_of_eq c1
          have c1b := Int.le_of_eq c1.symm
          have cb : ((s[k].toNat : Int) == 47) = false := by rw [beq_eq_false_iff_ne]; omega
          clear c1
          go_wp2_with fail
          go_region_held3 (fun _ => True) (trivial)
            ((refine step_append_lies _ (by rfl) _ _ _ (by rfl) w.heap.size 5 i0 _ 1 1 Try.underlying24 hi hz0 hz1 hz2 rfl (by omega) u0 (escTo ks s k).length (bcells (escTo ks s k)) (by rfl) ((HO.out.alloc _).drew) ⟨wr.heap.size, 0, none⟩ 3 3 [.int .u8 37, .int .u8 A, .int .u8 B] (by rfl) (by rfl) (World.news_of_block (cs := #[.int .u8 37, .int .u8 A, .int .u8 B]) (t := 5) (fr := (0, 0)) (heap_alloc_new wr _)) (by simp [Value.oneCell']) (by omega) (by unfold maxLen; omega) (by omega) (by simp; omega) (wr.heap.size + 1) (by simp) ?_; intro g cap w1 hown1 hgrow hat hlt1))
          all_goals
            have hF := FIN.out _ w1 hown1 hgrow
            clear hown1 hgrow hat hlt1 FIN HO hhi hlo hand
            go_wp2_with fail
            go_roundw
            case rel => exact ⟨k + 1, by omega, by go_num, hF.out.1, hF.out.2⟩
            case measure => simp [intOf]; omega
        · have cb : ((s[k].toNat : Int) == 47) = false := by rw [beq_eq_false_iff_ne]; omega
          go_wp2_with fail
          go_region_held3 (fun _ => True) (trivial)
            ((refine step_append_lies _ (by rfl) _ _ _ (by rfl) w.heap.size 5 i0 _ 1 1 Try.underlying24 hi hz0 hz1 hz2 rfl (by omega) u0 (escTo ks s k).length (bcells (escTo ks s k)) (by rfl) ((HO.out.alloc _).drew) ⟨wr.heap.size, 0, none⟩ 3 3 [.int .u8 37, .int .u8 A, .int .u8 B] (by rfl) (by rfl) (World.news_of_block (cs := #[.int .u8 37, .int .u8 A, .int .u8 B]) (t := 5) (fr := (0, 0)) (heap_alloc_new wr _)) (by simp [Value.oneCell']) (by omega) (by unfold maxLen; omega) (by omega) (by simp; omega) (wr.heap.size + 1) (by simp) ?_; intro g cap w1 hown1 hgrow hat hlt1))
          all_goals
            have hF := FIN.out _ w1 hown1 hgrow
            clear hown1 hgrow hat hlt1 FIN HO hhi hlo hand
            go_wp2_with fail
            go_roundw
            case rel => exact ⟨k + 1, by omega, by go_num, hF.out.1, hF.out.2⟩
            case measure => simp [intOf]; omega
        · have cb : ((s[k].toNat : Int) == 47) = false := by rw [beq_eq_false_iff_ne]; omega
          go_wp2_with fail
          go_region_held3 (fun _ => True) (trivial)
            ((refine step_append_lies _ (by rfl) _ _ _ (by rfl) w.heap.size 5 i0 _ 1 1 Try.underlying24 hi hz0 hz1 hz2 rfl (by omega) u0 (escTo ks s k).length (bcells (escTo ks s k)) (by rfl) ((HO.out.alloc _).drew) ⟨wr.heap.size, 0, none⟩ 3 3 [.int .u8 37, .int .u8 A, .int .u8 B] (by rfl) (by rfl) (World.news_of_block (cs := #[.int .u8 37, .int .u8 A, .int .u8 B]) (t := 5) (fr := (0, 0)) (heap_alloc_new wr _)) (by simp [Value.oneCell']) (by omega) (by unfold maxLen; omega) (by omega) (by simp; omega) (wr.heap.size + 1) (by simp) ?_; intro g cap w1 hown1 hgrow hat hlt1))
          all_goals
            have hF := FIN.out _ w1 hown1 hgrow
            clear hown1 hgrow hat hlt1 FIN HO hhi hlo hand
            go_wp2_with fail
            go_roundw
            case rel => exact ⟨k + 1, by omega, by go_num, hF.out.1, hF.out.2⟩
            case measure => simp [intOf]; omega
    · obtain rfl : k = s.size := by omega
      go_wp2_with fail
      go_ret
      have e : escTo ks s s.size = esc ks s.data.toList := by
        unfold escTo
        rw [List.take_of_length_le (by simp)]
      rw [e] at HO
      exact ⟨_, rfl, HO.out, hbk⟩
end Go.Proofs.Qxb6617851a

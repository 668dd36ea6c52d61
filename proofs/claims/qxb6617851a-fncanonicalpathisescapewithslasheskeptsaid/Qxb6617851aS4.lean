import Derived.Test.Qxb6617851aS3
namespace Go.Proofs.Qxb6617851a
open Go.RowKit
attribute [local go_sem ↓] Go.wp_at_zero Go.wp_at_succ

/-- lower case -/
def lowD (x : Int) : Int := if 65 ≤ x ∧ x ≤ 90 then x + 32 else x
/-- does the byte stand for the digit? -/
def hitD (d : Nat) (c : Int) : Bool := c == ((hexU d).toNat : Int) || c == lowD ((hexU d).toNat : Int)
/-- what the first digits tell of a byte -/
def seenD : Nat → Int → Bool × Int
  | 0, _ => (false, 0)
  | k + 1, c => if hitD k c = true then (true, (k : Int)) else seenD k c

theorem seenD_hit {k : Nat} {c : Int} (h : hitD k c = true) : seenD (k + 1) c = (true, (k : Int)) := by rw [seenD, if_pos h]
theorem seenD_miss {k : Nat} {c : Int} (h : hitD k c = false) : seenD (k + 1) c = seenD k c := by rw [seenD, if_neg (by rw [h]; decide)]

theorem seenD_all : ∀ n : Fin 256, seenD 16 (n.val : Int) = (hexOK (n.val : Int), hexV (n.val : Int)) := by decide +kernel
theorem seenD_end (c : Int) (h0 : 0 ≤ c) (h1 : c ≤ 255) : seenD 16 c = (hexOK c, hexV c) := by
  have := seenD_all ⟨c.toNat, by omega⟩
  have e : ((c.toNat : Nat) : Int) = c := by omega
  simpa only [e] using this

theorem hexU_low (k : Nat) (h : k < 10) : ((hexU k).toNat : Int) = 48 + k := by
  have : ∀ n : Fin 10, ((hexU n.val).toNat : Int) = 48 + (n.val : Int) := by decide +kernel
  exact this ⟨k, h⟩
theorem hexU_high (k : Nat) (h0 : 10 ≤ k) (h : k < 16) : ((hexU k).toNat : Int) = 55 + k := by
  have : ∀ n : Fin 16, 10 ≤ n.val → ((hexU n.val).toNat : Int) = 55 + (n.val : Int) := by decide +kernel
  exact this ⟨k, h⟩ h0

theorem esc_digit (k : Nat) (h : k < 16) : esc false [UInt8.ofNat k] = [37, 48, hexU k] := by
  have : ∀ n : Fin 16, esc false [UInt8.ofNat n.val] = [37, 48, hexU n.val] := by decide +kernel
  exact this ⟨k, h⟩
theorem ofNat_digit (k : Nat) (h : k < 16) : (UInt8.ofNat k).toNat = k := by
  simp
  omega

theorem own_one (wr : World) (B : Nat) (k : Nat) (h : k < 16) (hB : B ≤ wr.heap.size) : (wr.alloc (.cells #[.int .u8 (k : Int)] 5)).ownsRow B 5 1 (.slice (some ⟨wr.heap.size, 0, none⟩) 1 1) 1 (bcells [UInt8.ofNat k]) := by
  have := World.ownsRow_lit (base := B) (e := 5) (size := 1) wr #[.int .u8 (k : Int)] 1 hB (by unfold maxLen; omega) rfl
  unfold bcells
  rw [List.map_cons, List.map_nil, ofNat_digit k h]
  exact this

set_option maxHeartbeats 400000 in
theorem escape_digit (k : Nat) (h : k < 16) (w : World) :
    Calls Try.prog 10 #[.slice none 0 0, .string ⟨#[UInt8.ofNat k]⟩, .bool false] w fun e w' => ∃ g cap, e = .returned (.slice (some ⟨g, 0, none⟩) 3 cap) ∧ w'.cell? ⟨g, 0, none⟩ = some (.int .u8 37) ∧ w'.cell? ⟨g, 1, none⟩ = some (.int .u8 48) ∧ w'.cell? ⟨g, 2, none⟩ = some (.int .u8 ((hexU k).toNat : Int)) ∧ Below w.heap.size w w' := by
  refine (zzEscape_any ⟨#[UInt8.ofNat k]⟩ false w (by show 1 ≤ 65536; omega)).mono ?_
  rintro e w' ⟨v', rfl, ho, hb⟩
  have ho2 : w'.ownsRow w.heap.size 5 1 v' 3 (bcells [37, 48, hexU k]) := by
    have e1 := esc_digit k h
    have ho1 := ho
    simp only [e1] at ho1
    exact ho1
  clear ho
  rcases ho2.2 with ⟨_, hn⟩ | ⟨g, cap, cur, rfl, _⟩
  · cases hn
  · have c0 := ho2.cells (g := g) rfl 0 (.int .u8 37) rfl
    have c1 := ho2.cells (g := g) rfl 1 (.int .u8 48) rfl
    have c2 := ho2.cells (g := g) rfl 2 (.int .u8 ((hexU k).toNat : Int)) rfl
    rw [Addr.add_lit] at c0 c1 c2
    exact ⟨g, cap, rfl, c0, c1, c2, hb⟩

set_option maxRecDepth 4000 in
set_option maxHeartbeats 1000000 in
theorem reads_walk (c : Int) (h0 : 0 ≤ c) (h1 : c ≤ 255) (w : World) :
    Calls Try.prog 5 #[.int .u8 c] w fun e w' => e = .returned (.bool true) ∧ Below w.heap.size w w' := by
  have HX := hide (zzHexDigit_any c h0 h1 w)
  have hE := seenD_end c h0 h1
  have hE1 : hexOK c = (seenD 16 c).1 := by rw [hE]
  have hE2 : hexV c = (seenD 16 c).2 := by rw [hE]
  clear hE
  have HE1 := hide hE1
  have HE2 := hide hE2
  clear hE1 hE2
  generalize hexOK c = K at *
  generalize hexV c = V at *
  go_enter Try.func5, Try.ntmps5
  go_wp2_with (go_at_call 14; refine HX.out.mono ?_; clear HX; rintro e w' ⟨rfl, rfl⟩)
  go_loopw [5, 6, 7] (fun a b d wr => ∃ k : Nat, k ≤ 16 ∧ d = .int .i64 k ∧ a = .bool (seenD k c).1 ∧ b = .int .u8 (seenD k c).2 ∧ Below w.heap.size w wr) (fun _ _ d _ => 16 - (intOf d).toNat)
  case atStart => exact ⟨0, by omega, rfl, rfl, rfl, Below.refl _ _⟩
  case round =>
    obtain ⟨k, hk, rfl, rfl, rfl, hbk⟩ := hrel
    by_cases hlt : k < 16
    · have hcv := conv_own (own_one wr wr.heap.size k hlt (Nat.le_refl _))
      have HC := hide (escape_digit k hlt (wr.alloc (.cells #[.int .u8 (k : Int)] 5)))
      have hbk1 := hbk.size
      have HB : Hid (Below w.heap.size w (wr.alloc (.cells #[.int .u8 (k : Int)] 5))) := hide (hbk.alloc hbk1 _)
      clear hbk
      have HS : Hid (w.heap.size ≤ (wr.alloc (.cells #[.int .u8 (k : Int)] 5)).heap.size) := hide (Nat.le_trans hbk1 (by simp))
      clear hbk1
      have HH : Hid (hitD k c = true → (seenD (k + 1) c).1 = true ∧ (seenD (k + 1) c).2 = (k : Int)) := hide fun h => by rw [seenD_hit h]; exact ⟨rfl, rfl⟩
      have HM : Hid (hitD k c = false → (seenD (k + 1) c).1 = (seenD k c).1 ∧ (seenD (k + 1) c).2 = (seenD k c).2) := hide fun h => by rw [seenD_miss h]; exact ⟨rfl, rfl⟩
      have HD : Hid (hitD k c = (c == ((hexU k).toNat : Int) || c == lowD ((hexU k).toNat : Int))) := hide rfl
      generalize (seenD k c).1 = A at *
      generalize (seenD k c).2 = B at *
      have hX : (48 ≤ ((hexU k).toNat : Int) ∧ ((hexU k).toNat : Int) ≤ 57) ∨ (65 ≤ ((hexU k).toNat : Int) ∧ ((hexU k).toNat : Int) ≤ 70) := by
        by_cases hk10 : k < 10
        · rw [hexU_low k hk10]
          omega
        · rw [hexU_high k (by omega) hlt]
          omega
      generalize ((hexU k).toNat : Int) = X at *
      rcases hX with ⟨x0, x1⟩ | ⟨x0, x1⟩
      · have hlow : lowD X = X := by unfold lowD; rw [if_neg (by omega)]
        by_cases h1 : c = X
        · have t1 : (c == X) = true := by rw [beq_iff_eq]; exact h1
          have HK := hide (HH.out (by rw [HD.out, t1]; rfl))
          clear HH HM HD h1 hlow
          go_wp2_with (go_at_call 10; refine HC.out.mono ?_; clear HC; rintro e w2 ⟨g, cap, rfl, c0, c1, c2, hb⟩; have HB2 := hide (HB.out.trans (hb.mono HS.out)); clear hb hcv HB HS)
          go_roundw
          case rel => exact ⟨k + 1, by omega, by go_num, by rw [HK.out.1], by rw [HK.out.2], HB2.out⟩
          case measure => simp [intOf]; omega
        · have t1 : (c == X) = false := by rw [beq_eq_false_iff_ne]; exact h1
          have HK := hide (HM.out (by rw [HD.out, hlow, t1]; rfl))
          clear HH HM HD h1 hlow
          go_wp2_with (go_at_call 10; refine HC.out.mono ?_; clear HC; rintro e w2 ⟨g, cap, rfl, c0, c1, c2, hb⟩; have HB2 := hide (HB.out.trans (hb.mono HS.out)); clear hb hcv HB HS)
          go_roundw
          case rel => exact ⟨k + 1, by omega, by go_num, by rw [HK.out.1], by rw [HK.out.2], HB2.out⟩
          case measure => simp [intOf]; omega
      · have hlow : lowD X = X + 32 := by unfold lowD; rw [if_pos (by omega)]
        by_cases h1 : c = X
        · have t1 : (c == X) = true := by rw [beq_iff_eq]; exact h1
          have HK := hide (HH.out (by rw [HD.out, t1]; rfl))
          clear HH HM HD h1 hlow
          go_wp2_with (go_at_call 10; refine HC.out.mono ?_; clear HC; rintro e w2 ⟨g, cap, rfl, c0, c1, c2, hb⟩; have HB2 := hide (HB.out.trans (hb.mono HS.out)); clear hb hcv HB HS)
          go_roundw
          case rel => exact ⟨k + 1, by omega, by go_num, by rw [HK.out.1], by rw [HK.out.2], HB2.out⟩
          case measure => simp [intOf]; omega
        · have t1 : (c == X) = false := by rw [beq_eq_false_iff_ne]; exact h1
          by_cases h2 : c = X + 32
          · have t2 : (c == X + 32) = true := by rw [beq_iff_eq]; exact h2
            have HK := hide (HH.out (by rw [HD.out, hlow, t1, t2]; rfl))
            clear HH HM HD h1 h2 hlow
            go_wp2_with (go_at_call 10; refine HC.out.mono ?_; clear HC; rintro e w2 ⟨g, cap, rfl, c0, c1, c2, hb⟩; have HB2 := hide (HB.out.trans (hb.mono HS.out)); clear hb hcv HB HS)
            go_roundw
            case rel => exact ⟨k + 1, by omega, by go_num, by rw [HK.out.1], by rw [HK.out.2], HB2.out⟩
            case measure => simp [intOf]; omega
          · have t2 : (c == X + 32) = false := by rw [beq_eq_false_iff_ne]; exact h2
            have HK := hide (HM.out (by rw [HD.out, hlow, t1, t2]; rfl))
            clear HH HM HD h1 h2 hlow
            go_wp2_with (go_at_call 10; refine HC.out.mono ?_; clear HC; rintro e w2 ⟨g, cap, rfl, c0, c1, c2, hb⟩; have HB2 := hide (HB.out.trans (hb.mono HS.out)); clear hb hcv HB HS)
            go_roundw
            case rel => exact ⟨k + 1, by omega, by go_num, by rw [HK.out.1], by rw [HK.out.2], HB2.out⟩
            case measure => simp [intOf]; omega
    · obtain rfl : k = 16 := by omega
      rw [← HE1.out, ← HE2.out]
      clear HE1 HE2
      go_wp2_with fail
      go_ret
      exact ⟨by simp, hbk⟩
end Go.Proofs.Qxb6617851a

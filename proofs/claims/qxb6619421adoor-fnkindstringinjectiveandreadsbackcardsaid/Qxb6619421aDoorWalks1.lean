/-
  The parser and the word test, on the texts that String writes.
-/
import Derived.Test.Qxb6619421aDoorShelf
import Derived.WalkKit
import Derived.WalkSpells
import Derived.WalkLawsBesides
namespace Go.Proofs.Qxb6619421aDoor
open Go.RowKit

/-- What the parser has read behind k digits. -/
def pv (c : Nat → Nat) : Nat → Nat
  | 0 => 0
  | k + 1 => pv c k * 10 + (c (5 + k) - 48)

theorem pv_lt (c : Nat → Nat) (m : Nat) (h : ∀ i, 5 ≤ i → i < m + 5 → 48 ≤ c i ∧ c i ≤ 57) : ∀ k, k ≤ m → pv c k < 10 ^ k
  | 0, _ => by simp [pv]
  | k + 1, hk => by
    have h1 := pv_lt c m h k (by omega)
    have h2 := h (5 + k) (by omega) (by omega)
    rw [Nat.pow_succ]
    simp only [pv]
    omega

set_option maxRecDepth 100000 in
set_option maxHeartbeats 400000 in
theorem num1 (s : ByteArray) (c : Nat → Nat) (hs : s.size = 7) (hc : Hid (∀ i (h : i < s.size), (s[i]'h).toNat = c i)) (hd : Hid (∀ i, 5 ≤ i → i < 6 → 48 ≤ c i ∧ c i ≤ 57))
    (h0 : c 0 = 75) (h1 : c 1 = 105) (h2 : c 2 = 110) (h3 : c 3 = 100) (h4 : c 4 = 40) (hl : c 6 = 41) (w : World) :
    Calls Tryd.prog 8 #[.string s] w fun e w' => e = .returned (.tuple #[.int .i64 (pv c 1), .bool true]) ∧ w' = w := by
  have g0 : (s[0]'(by omega)).toNat = 75 := (hc.out 0 _).trans h0
  have g1 : (s[1]'(by omega)).toNat = 105 := (hc.out 1 _).trans h1
  have g2 : (s[2]'(by omega)).toNat = 110 := (hc.out 2 _).trans h2
  have g3 : (s[3]'(by omega)).toNat = 100 := (hc.out 3 _).trans h3
  have g4 : (s[4]'(by omega)).toNat = 40 := (hc.out 4 _).trans h4
  have g5 : (s[5]'(by omega)).toNat = c 5 := hc.out 5 _
  have gl : (s[6]'(by omega)).toNat = 41 := (hc.out 6 _).trans hl
  clear h0 h1 h2 h3 h4 hl
  go_enter Tryd.func8, Tryd.ntmps8
  go_wp2
  go_loopw [5, 6] (fun v i wr => ∃ k : Nat, k ≤ 1 ∧ v = .int .i64 (pv c k : Nat) ∧ i = .int .i64 ((5 + k : Nat) : Int) ∧ wr = w) (fun _ i _ => 6 - (intOf i).toNat)
  case atStart => exact ⟨0, Nat.zero_le _, rfl, rfl, rfl⟩
  case round =>
    obtain ⟨k, hk, rfl, rfl, rfl⟩ := hrel
    by_cases hlt : k < 1
    · have hck := hc.out (5 + k) (by omega)
      obtain ⟨d1, d2⟩ := hd.out (5 + k) (by omega) (by omega)
      have hpv := pv_lt c 1 hd.out k hk
      have hp3 : (10 : Nat) ^ k ≤ 1000 := Nat.le_trans (Nat.pow_le_pow_right (by omega) (show k ≤ 3 by omega)) (by decide)
      have hb : pv c k < 1000 := by omega
      have hstep : Hid (pv c (k + 1) = pv c k * 10 + (c (5 + k) - 48)) := rfl
      generalize c (5 + k) = ck at *
      generalize pv c k = pk at *
      have i1 : ((5 + k : Nat) : Int) < 6 := by omega
      clear hpv hp3
      go_wp2
      go_roundw
      case rel => exact ⟨k + 1, by omega, by rw [hstep.out]; go_num, by go_num, by first | rfl | trivial⟩
      case measure => simp [intOf]; omega
    · obtain rfl : k = 1 := by omega
      go_wp2
      go_ret2
      exact ⟨rfl, rfl⟩

set_option maxRecDepth 100000 in
set_option maxHeartbeats 400000 in
theorem num2 (s : ByteArray) (c : Nat → Nat) (hs : s.size = 8) (hc : Hid (∀ i (h : i < s.size), (s[i]'h).toNat = c i)) (hd : Hid (∀ i, 5 ≤ i → i < 7 → 48 ≤ c i ∧ c i ≤ 57))
    (h0 : c 0 = 75) (h1 : c 1 = 105) (h2 : c 2 = 110) (h3 : c 3 = 100) (h4 : c 4 = 40) (h5 : c 5 ≠ 48) (hl : c 7 = 41) (w : World) :
    Calls Tryd.prog 8 #[.string s] w fun e w' => e = .returned (.tuple #[.int .i64 (pv c 2), .bool true]) ∧ w' = w := by
  have g0 : (s[0]'(by omega)).toNat = 75 := (hc.out 0 _).trans h0
  have g1 : (s[1]'(by omega)).toNat = 105 := (hc.out 1 _).trans h1
  have g2 : (s[2]'(by omega)).toNat = 110 := (hc.out 2 _).trans h2
  have g3 : (s[3]'(by omega)).toNat = 100 := (hc.out 3 _).trans h3
  have g4 : (s[4]'(by omega)).toNat = 40 := (hc.out 4 _).trans h4
  have g5 : (s[5]'(by omega)).toNat = c 5 := hc.out 5 _
  have gl : (s[7]'(by omega)).toNat = 41 := (hc.out 7 _).trans hl
  clear h0 h1 h2 h3 h4 hl
  have h5b : ((c 5 : Int) == 48) = false := beq_eq_false_iff_ne.2 (by omega)
  have h5c : ¬ (c 5 : Int) = 48 := by omega
  clear h5
  go_enter Tryd.func8, Tryd.ntmps8
  go_wp2
  go_loopw [5, 6] (fun v i wr => ∃ k : Nat, k ≤ 2 ∧ v = .int .i64 (pv c k : Nat) ∧ i = .int .i64 ((5 + k : Nat) : Int) ∧ wr = w) (fun _ i _ => 7 - (intOf i).toNat)
  case atStart => exact ⟨0, Nat.zero_le _, rfl, rfl, rfl⟩
  case round =>
    obtain ⟨k, hk, rfl, rfl, rfl⟩ := hrel
    by_cases hlt : k < 2
    · have hck := hc.out (5 + k) (by omega)
      obtain ⟨d1, d2⟩ := hd.out (5 + k) (by omega) (by omega)
      have hpv := pv_lt c 2 hd.out k hk
      have hp3 : (10 : Nat) ^ k ≤ 1000 := Nat.le_trans (Nat.pow_le_pow_right (by omega) (show k ≤ 3 by omega)) (by decide)
      have hb : pv c k < 1000 := by omega
      have hstep : Hid (pv c (k + 1) = pv c k * 10 + (c (5 + k) - 48)) := rfl
      generalize c (5 + k) = ck at *
      generalize pv c k = pk at *
      have i1 : ((5 + k : Nat) : Int) < 7 := by omega
      clear hpv hp3
      go_wp2
      go_roundw
      case rel => exact ⟨k + 1, by omega, by rw [hstep.out]; go_num, by go_num, by first | rfl | trivial⟩
      case measure => simp [intOf]; omega
    · obtain rfl : k = 2 := by omega
      go_wp2
      go_ret2
      exact ⟨rfl, rfl⟩

set_option maxRecDepth 100000 in
set_option maxHeartbeats 400000 in
theorem num3 (s : ByteArray) (c : Nat → Nat) (hs : s.size = 9) (hc : Hid (∀ i (h : i < s.size), (s[i]'h).toNat = c i)) (hd : Hid (∀ i, 5 ≤ i → i < 8 → 48 ≤ c i ∧ c i ≤ 57))
    (h0 : c 0 = 75) (h1 : c 1 = 105) (h2 : c 2 = 110) (h3 : c 3 = 100) (h4 : c 4 = 40) (h5 : c 5 ≠ 48) (hl : c 8 = 41) (w : World) :
    Calls Tryd.prog 8 #[.string s] w fun e w' => e = .returned (.tuple #[.int .i64 (pv c 3), .bool true]) ∧ w' = w := by
  have g0 : (s[0]'(by omega)).toNat = 75 := (hc.out 0 _).trans h0
  have g1 : (s[1]'(by omega)).toNat = 105 := (hc.out 1 _).trans h1
  have g2 : (s[2]'(by omega)).toNat = 110 := (hc.out 2 _).trans h2
  have g3 : (s[3]'(by omega)).toNat = 100 := (hc.out 3 _).trans h3
  have g4 : (s[4]'(by omega)).toNat = 40 := (hc.out 4 _).trans h4
  have g5 : (s[5]'(by omega)).toNat = c 5 := hc.out 5 _
  have gl : (s[8]'(by omega)).toNat = 41 := (hc.out 8 _).trans hl
  clear h0 h1 h2 h3 h4 hl
  have h5b : ((c 5 : Int) == 48) = false := beq_eq_false_iff_ne.2 (by omega)
  have h5c : ¬ (c 5 : Int) = 48 := by omega
  clear h5
  go_enter Tryd.func8, Tryd.ntmps8
  go_wp2
  go_loopw [5, 6] (fun v i wr => ∃ k : Nat, k ≤ 3 ∧ v = .int .i64 (pv c k : Nat) ∧ i = .int .i64 ((5 + k : Nat) : Int) ∧ wr = w) (fun _ i _ => 8 - (intOf i).toNat)
  case atStart => exact ⟨0, Nat.zero_le _, rfl, rfl, rfl⟩
  case round =>
    obtain ⟨k, hk, rfl, rfl, rfl⟩ := hrel
    by_cases hlt : k < 3
    · have hck := hc.out (5 + k) (by omega)
      obtain ⟨d1, d2⟩ := hd.out (5 + k) (by omega) (by omega)
      have hpv := pv_lt c 3 hd.out k hk
      have hp3 : (10 : Nat) ^ k ≤ 1000 := Nat.le_trans (Nat.pow_le_pow_right (by omega) (show k ≤ 3 by omega)) (by decide)
      have hb : pv c k < 1000 := by omega
      have hstep : Hid (pv c (k + 1) = pv c k * 10 + (c (5 + k) - 48)) := rfl
      generalize c (5 + k) = ck at *
      generalize pv c k = pk at *
      have i1 : ((5 + k : Nat) : Int) < 8 := by omega
      clear hpv hp3
      go_wp2
      go_roundw
      case rel => exact ⟨k + 1, by omega, by rw [hstep.out]; go_num, by go_num, by first | rfl | trivial⟩
      case measure => simp [intOf]; omega
    · obtain rfl : k = 3 := by omega
      go_wp2
      go_ret2
      exact ⟨rfl, rfl⟩

set_option maxRecDepth 100000 in
set_option maxHeartbeats 400000 in
/-- zzLowerWord, on a word of small letters -/
theorem low_any (s : ByteArray) (n : Nat) (c : Nat → Nat) (hn : 1 ≤ n) (hn2 : n ≤ 100) (hs : s.size = n) (hc : Hid (∀ i (h : i < s.size), (s[i]'h).toNat = c i)) (hd : Hid (∀ i, i < n → 97 ≤ c i ∧ c i ≤ 122)) (w : World) :
    Calls Tryd.prog 7 #[.string s] w fun e w' => e = .returned (.bool true) ∧ w' = w := by
  have hb0 : ((n : Int) == 0) = false := beq_eq_false_iff_ne.2 (by omega)
  go_enter Tryd.func7, Tryd.ntmps7
  go_wp2
  go_loopw [3] (fun i wr => ∃ k : Nat, k ≤ n ∧ i = .int .i64 k ∧ wr = w) (fun i _ => n - (intOf i).toNat)
  case atStart => exact ⟨0, Nat.zero_le _, rfl, rfl⟩
  case round =>
    obtain ⟨k, hk, rfl, rfl⟩ := hrel
    by_cases hlt : k < n
    · have hck := hc.out k (by omega)
      obtain ⟨d1, d2⟩ := hd.out k hlt
      generalize c k = ck at *
      have i1 : (k : Int) < (n : Int) := by omega
      go_wp2
      go_roundw
      case rel => exact ⟨k + 1, by omega, by go_num, by first | rfl | trivial⟩
      case measure => simp [intOf]; omega
    · go_wp2
      go_ret
      exact ⟨rfl, rfl⟩

end Go.Proofs.Qxb6619421aDoor

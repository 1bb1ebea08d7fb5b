/-
  The shim; the length of a varint.
-/
import Derived.Test.Qxb6617351aVarint
namespace Go.Proofs.Qxb6617351a
open Go.RowKit

set_option maxHeartbeats 400000 in
theorem shim_any (B n num : Nat) (sv : Value) (xs : List Value) (b : Option Addr) (lb cb : Nat) (zs : List UInt8) (w : World) (hown : w.ownsRow B 5 1 sv n xs) (hBw : B ≤ w.heap.size) (hn : n ≤ 16777216) (hlb : lb ≤ 16777216)
    (hb : Hid (Bytes w b lb zs)) (hnil : Hid (b = none → lb = 0 ∧ cb = 0)) (hne : Hid (∀ ad, b = some ad → sv.ownBlock ≠ some ad.block)) :
    Calls Try.prog 7 #[sv, .int .u64 num, .slice b lb cb] w (Grown w B sv n xs (field num zs)) := by
  go_enter Try.func7, Try.ntmps7
  go_wp2_with fail
  refine (field_any B n num sv xs b lb cb zs w hown hBw hn hlb hb hnil hne).mono ?_
  rintro e w1 ⟨v, rfl, h1, h2⟩
  go_wp2_with fail
  go_ret
  exact ⟨v, rfl, h1, h2⟩

theorem len_small {v y k : Nat} (h : (Lib.uvarint v).length = k + (Lib.uvarint y).length) (hy : y < 128) : (Lib.uvarint v).length = k + 1 := by
  rw [h, Lib.uvarint_small hy]; rfl
theorem len_big {v y k : Nat} (h : (Lib.uvarint v).length = k + (Lib.uvarint y).length) (hy : ¬ y < 128) : (Lib.uvarint v).length = k + 1 + (Lib.uvarint (y / 128)).length := by
  rw [h, Lib.uvarint_big (by omega), List.length_cons]; omega
theorem lt_of_quot {v y k : Nat} (h : y = v / 128 ^ k) (hy : y < 128) : v < 128 ^ (k + 1) := by
  rw [Nat.pow_succ, Nat.mul_comm]
  exact (Nat.div_lt_iff_lt_mul (Nat.pow_pos (by decide))).1 (h ▸ hy)
theorem ge_of_quot {v y k : Nat} (h : y = v / 128 ^ k) (hy : ¬ y < 128) : 128 ^ (k + 1) ≤ v := by
  rw [Nat.pow_succ, Nat.mul_comm]
  exact (Nat.le_div_iff_mul_le (Nat.pow_pos (by decide))).1 (h ▸ Nat.not_lt.1 hy)
theorem quot_next {v y k : Nat} (h : y = v / 128 ^ k) : y / 128 = v / 128 ^ (k + 1) := by
  rw [h, Nat.div_div_eq_div_mul, Nat.pow_succ]

set_option maxHeartbeats 1000000 in
theorem len_any (v : Nat) (w : World) (hv : v < 18446744073709551616) :
    Calls Try.prog 12 #[.int .u64 v] w fun e w' => e = .returned (.int .i64 ((Lib.uvarint v).length : Nat)) ∧ w' = w := by
  go_enter Try.func12, Try.ntmps12
  go_wp2
  go_loop [3] (fun vk => ∃ k y : Nat, vk = .int .i64 ((k + 1 : Nat) : Int) ∧ k ≤ 9 ∧ Hid (y = v / 128 ^ k) ∧ Hid ((Lib.uvarint v).length = k + (Lib.uvarint y).length)) (fun vk => 10 - (intOf vk).toNat)
  case atStart => exact ⟨0, v, rfl, by omega, by show v = v / 128 ^ 0; simp, by show _ = _; omega⟩
  case round =>
    obtain ⟨k, y, rfl, hk, hy, hl⟩ := hrel
    rcases (show k = 0 ∨ k = 1 ∨ k = 2 ∨ k = 3 ∨ k = 4 ∨ k = 5 ∨ k = 6 ∨ k = 7 ∨ k = 8 ∨ k = 9 from by omega) with rfl | rfl | rfl | rfl | rfl | rfl | rfl | rfl | rfl | rfl
    all_goals by_cases hy128 : y < 128
    all_goals first
      | (have hfin : Hid ((Lib.uvarint v).length = _ + 1) := (len_small hl.out hy128)
         have hlt := lt_of_quot hy.out hy128
         simp only [Nat.reduceAdd, Nat.reducePow] at hlt
         go_wp2
         go_ret
         exact ⟨by rw [hfin.out]; rfl, rfl⟩)
      | (have hge := ge_of_quot hy.out hy128
         simp only [Nat.reduceAdd, Nat.reducePow] at hge
         exfalso
         omega)
      | (have hge := ge_of_quot hy.out hy128
         simp only [Nat.reduceAdd, Nat.reducePow] at hge
         have hb := len_big hl.out hy128
         have hq := quot_next hy.out
         have HB : Hid ((Lib.uvarint v).length = _ + 1 + (Lib.uvarint (y / 128)).length) := hb
         have HQ : Hid (y / 128 = v / 128 ^ (_ + 1)) := hq
         clear hb hq
         go_wp2
         go_round
         case rel => exact ⟨_, y / 128, rfl, by omega, HQ, HB⟩
         case measure => simp [intOf])

end Go.Proofs.Qxb6617351a

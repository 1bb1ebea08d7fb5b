/-
  zzCheckFieldDagpbB1 on the field that it is asked for, at the end of the message.
-/
import Derived.Test.Qxb6617351aUvarint
namespace Go.Proofs.Qxb6617351a
open Go.RowKit

theorem and7 (K : Nat) (h : K < 18446744073709551616) : bits .and .u64 (K : Int) 7 = ((K % 8 : Nat) : Int) := by
  have := bits_mask .u64 64 (by decide) wraps_u64 3 (by decide) (K : Int) (by omega) (by omega)
  have e : ((2 : Int) ^ 3 - 1) = 7 := by decide
  have e2 : ((2 : Int) ^ 3) = 8 := by decide
  rw [e, e2] at this
  rw [this]
  omega

/-- What the check gives. -/
def Checks (w : World) (j : Nat) (e : Ending) (w' : World) : Prop := e = .returned (.tuple #[.int .i64 (j : Int), .bool true]) ∧ ∃ n, w' = w.drewN n

theorem checks_mk {w : World} {j n : Nat} {x : Int} (h : x = (j : Int)) : Checks w j (.returned (.tuple #[.int .i64 x, .bool true])) (w.drewN n) := by
  subst h; exact ⟨rfl, n, rfl⟩

theorem drop_pre (pre q : List UInt8) : (pre ++ q).drop pre.length = q := by simp

set_option maxHeartbeats 1000000 in
set_option maxRecDepth 100000 in
theorem check_yes (a : Option Addr) (len cap num : Nat) (b : Option Addr) (cb : Nat) (pre want : List UInt8) (w : World) (hnum : num < 18446744073709551616) (hl : len ≤ 16777216) (hcap : len ≤ cap)
    (hz : Hid (Bytes w a len (pre ++ field num want))) (hw : Hid (Bytes w b want.length want)) :
    Calls Try.prog 9 #[.slice a len cap, .int .i64 pre.length, .int .u64 num, .slice b want.length cb] w (Checks w len) := by
  have hlen := hz.out.1
  rw [List.length_append] at hlen
  have hfl : (field num want).length = (Lib.uvarint (keyOf num)).length + (Lib.uvarint want.length).length + want.length := by simp only [field, List.length_append]; omega
  have hk64 := keyOf_lt num
  have hK8 : keyOf num % 8 = 2 := by unfold keyOf; omega
  have hK3 : keyOf num / 8 = num % 2305843009213693952 := by unfold keyOf; omega
  have hmask := mask_eq num hnum
  have hand := and7 (keyOf num) hk64
  rw [hK8] at hand
  have hwl : want.length ≤ 16777216 := by omega
  have HD1 : Hid ((pre ++ field num want).drop pre.length = Lib.uvarint (keyOf num) ++ (Lib.uvarint want.length ++ want)) := by
    show _ = _
    rw [drop_pre]; rfl
  have HD2 : Hid ((pre ++ field num want).drop (pre.length + (Lib.uvarint (keyOf num)).length) = Lib.uvarint want.length ++ want) := by
    show _ = _
    rw [← List.drop_drop, drop_pre, field, drop_pre]
  have HD3 : Hid (pre ++ field num want = (pre ++ Lib.uvarint (keyOf num) ++ Lib.uvarint want.length) ++ want) := by
    show _ = _
    simp only [field, List.append_assoc]
  have HK : Hid (keyOf num / 8 = num % 2305843009213693952) := hK3
  generalize keyOf num = K at *
  generalize hkl : (Lib.uvarint K).length = kl at *
  generalize hll : (Lib.uvarint want.length).length = ll at *
  have HKL : Hid ((Lib.uvarint K).length = kl) := hkl
  have HLL : Hid ((Lib.uvarint want.length).length = ll) := hll
  have e1 : len ≤ pre.length + kl + ll + want.length := by omega
  have e2 : pre.length + kl + ll + want.length ≤ len := by omega
  clear hkl hll hlen hfl hK8 hK3
  have hk3 : ((K : Int) / 8 != (num : Int) % 2305843009213693952) = false := by
    have := HK.out
    rw [bne_eq_false_iff_eq]; omega
  go_enter Try.func9, Try.ntmps9
  go_wp2_with fail
  refine (read_any a len cap pre.length K _ _ w hk64 hl hz HD1).mono ?_
  rintro e w1 ⟨rfl, hw1⟩
  subst w1
  rw [HKL.out]
  go_wp2_with fail
  rw [show ((pre.length : Int) + (kl : Int)) = ((pre.length + kl : Nat) : Int) from by omega]
  refine (read_any a len cap (pre.length + kl) want.length _ _ w (by omega) hl hz HD2).mono ?_
  rintro e w1 ⟨rfl, hw1⟩
  subst w1
  rw [HLL.out]
  go_wp2_with fail
  · have hw0 : want = [] := List.eq_nil_of_length_eq_zero (by omega)
    refine (equal_yes a want.length 0 b cb want w (by omega) (by rw [hw0]; exact Bytes.empty _ _) hw).mono ?_
    clear hw0
    rintro e w1 ⟨rfl, q, rfl⟩
    go_wp2_with fail
    go_ret2
    exact checks_mk (by omega)
  · refine (equal_yes (a.map (·.add (pre.length + kl + ll))) want.length (cap - (pre.length + kl + ll)) b cb want w (by omega) (by
      have h := hz.out
      rw [HD3.out] at h
      have h2 := h.tail
      rw [List.length_append, List.length_append, HKL.out, HLL.out] at h2
      exact h2) hw).mono ?_
    rintro e w1 ⟨rfl, q, rfl⟩
    go_wp2_with fail
    go_ret2
    exact checks_mk (by omega)

end Go.Proofs.Qxb6617351a

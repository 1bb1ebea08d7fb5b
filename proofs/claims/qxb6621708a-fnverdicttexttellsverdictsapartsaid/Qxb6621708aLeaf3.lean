/-
  THE SMALL FUNCTIONS OF THE SEAT, THE LAST TWO: 'same strings'; the bound of the second law.
-/
import Derived.Test.Qxb6621708aLeaf2
namespace Go.Proofs.Qxb6621708a
open Go.RowKit

theorem toList_ne {x y : ByteArray} (h : x ≠ y) : (x.toList == y.toList) = false := by
  rw [beq_eq_false_iff_ne]
  intro e
  rw [ByteArray.toList_eq, ByteArray.toList_eq] at e
  exact h (ByteArray.ext (Array.toList_inj.mp e))

/-- Are the two lists one? -/
def sameB (a b : List ByteArray) : Bool := decide (a = b)

theorem Strs.le_tot {w : World} {a : Option Addr} {len : Nat} {ss : List ByteArray} (_ : Strs w a len ss) (x : ByteArray) (h : x ∈ ss) : x.size ≤ tot ss := by
  obtain ⟨k, hk, he⟩ := List.mem_iff_getElem.1 h
  exact elem_le ss k x (by rw [← he]; exact List.getElem?_eq_getElem hk)

set_option maxHeartbeats 400000 in
theorem same_any (a : Option Addr) (la ca : Nat) (sa : List ByteArray) (b : Option Addr) (lb cb : Nat) (sb : List ByteArray) (w : World)
    (hla : la ≤ 1048576) (hlb : lb ≤ 1048576) (ha : Hid (Strs w a la sa)) (hb : Hid (Strs w b lb sb)) :
    Calls Try.prog 13 #[.slice a la ca, .slice b lb cb] w fun e w' => e = .returned (.bool (sameB sa sb)) ∧ ∃ n, w' = w.drewN n := by
  by_cases hl : la = lb
  · subst hl
    go_enter Try.func13, Try.ntmps13
    go_wp2
    go_loopw [5] (fun i wr => ∃ k n : Nat, k ≤ la ∧ i = .int .i64 k ∧ wr = w.drewN n ∧ Hid (sa.take k = sb.take k)) (fun i _ => la - (intOf i).toNat)
    case atStart => exact ⟨0, 0, Nat.zero_le _, rfl, rfl, rfl⟩
    case round =>
      obtain ⟨k, n, hk, rfl, rfl, hsame⟩ := hrel
      by_cases hlt : k < la
      · obtain ⟨ba, oa, x, rfl, _, hcx, hgx, _, _, _⟩ := ha.out.at hlt
        obtain ⟨bb, ob, y, rfl, _, hcy, hgy, _, _, _⟩ := hb.out.at hlt
        have i1 : (k : Int) < (la : Int) := by omega
        have HX : Hid (sa[k]? = some x) := hgx
        have HY : Hid (sb[k]? = some y) := hgy
        have hxn : Hid (sa.take (k + 1) = sa.take k ++ [x]) := by rw [List.take_add_one, hgx]; rfl
        have hyn : Hid (sb.take (k + 1) = sb.take k ++ [y]) := by rw [List.take_add_one, hgy]; rfl
        clear hgx hgy
        by_cases hxy : x = y
        · subst hxy
          go_wp2
          go_quiet (fail)
          go_wp2
          go_roundw
          case rel => exact ⟨k + 1, n + nq, by omega, by go_num, rfl, by rw [hxn.out, hyn.out, hsame.out]; rfl⟩
          case measure => simp [intOf]; omega
        · have hne : (x.toList == y.toList) = false := toList_ne hxy
          have H1 : Hid (sameB sa sb = false) := by
            have : sa ≠ sb := by
              intro e
              subst e
              exact hxy (Option.some.inj (HX.out.symm.trans HY.out))
            simp [sameB, this, Hid]
          clear hxy
          go_wp2
          go_quiet (fail)
          go_wp2
          go_ret
          exact ⟨by rw [H1.out]; rfl, n + nq, by simp⟩
      · have H1 : Hid (sameB sa sb = true) := by
          have h1 := hsame.out
          obtain rfl : k = la := by omega
          rw [ha.out.all, hb.out.all] at h1
          simp [sameB, h1, Hid]
        go_wp2
        go_ret
        exact ⟨by rw [H1.out]; rfl, n, rfl⟩
  · have H1 : Hid (sameB sa sb = false) := by
      have h1 := ha.out.1
      have h2 := hb.out.1
      have : sa ≠ sb := fun e => hl (by rw [← h1, ← h2, e])
      simp [sameB, this, Hid]
    have h2 : ((la : Int) != (lb : Int)) = true := by simp; omega
    go_enter Try.func13, Try.ntmps13
    go_wp2
    go_ret
    exact ⟨by rw [H1.out]; rfl, 0, rfl⟩

set_option maxHeartbeats 400000 in
theorem bytes11 (i1 o1 : ByteArray) (a : Option Addr) (la ca : Nat) (sa : List ByteArray) (i2 o2 : ByteArray) (b : Option Addr) (lb cb : Nat) (sb : List ByteArray) (w : World)
    (hi1 : i1.size ≤ 9223372036854775807) (ho1 : o1.size ≤ 9223372036854775807) (hi2 : i2.size ≤ 9223372036854775807) (ho2 : o2.size ≤ 9223372036854775807) (hla : la ≤ 9223372036854775807) (hlb : lb ≤ 9223372036854775807)
    (ha : Hid (Strs w a la sa)) (hb : Hid (Strs w b lb sb)) (hxa : Hid (∀ x ∈ sa, x.size ≤ 9223372036854775807)) (hxb : Hid (∀ x ∈ sb, x.size ≤ 9223372036854775807)) :
    Calls Try.prog 11 #[.string i1, .string o1, .slice a la ca, .string i2, .string o2, .slice b lb cb] w (Answers w (Fits (i1.size + o1.size + la + tot sa + i2.size + o2.size + lb + tot sb))) := by
  go_enter Try.func11, Try.ntmps11
  go_wp2
  all_goals try (go_ret; exact ⟨false, rfl, rfl, fun h => by cases h⟩)
  go_loop [13, 14] (fun v i => ∃ (k : Nat), k ≤ la ∧ i = .int .i64 k ∧ v = .int .i64 ((i1.size + o1.size + la + tot (sa.take k) : Nat) : Int) ∧ i1.size + o1.size + la + tot (sa.take k) ≤ 1048576) (fun _ i => la - (intOf i).toNat)
  case atStart => exact ⟨0, Nat.zero_le _, rfl, by simp [tot_nil], by simp [tot_nil]; omega⟩
  case round =>
    obtain ⟨k, hk, rfl, rfl, hm⟩ := hrel
    by_cases hlt : k < la
    · obtain ⟨ba, oa, x, rfl, _, hcell, _, hmem, _, hsucc⟩ := ha.out.at hlt
      have hxs := hxa.out x hmem
      have HS : Hid (tot (sa.take (k + 1)) = tot (sa.take k) + x.size) := hsucc
      clear hmem hsucc
      go_wp2
      all_goals try (go_ret; exact ⟨false, rfl, rfl, fun h => by cases h⟩)
      go_round
      case rel => exact ⟨k + 1, by omega, by go_num, by rw [HS.out]; go_num, by rw [HS.out]; omega⟩
      case measure => simp [intOf]; omega
    · obtain rfl : k = la := by omega
      rw [ha.out.all] at hm ⊢
      go_wp2
      all_goals try (go_ret; exact ⟨false, rfl, rfl, fun h => by cases h⟩)
      go_loop [13, 15] (fun v i => ∃ (j : Nat), j ≤ lb ∧ i = .int .i64 j ∧ v = .int .i64 ((i1.size + o1.size + k + tot sa + i2.size + o2.size + lb + tot (sb.take j) : Nat) : Int) ∧ i1.size + o1.size + k + tot sa + i2.size + o2.size + lb + tot (sb.take j) ≤ 1048576) (fun _ i => lb - (intOf i).toNat)
      case atStart => exact ⟨0, Nat.zero_le _, rfl, by simp [tot_nil], by simp [tot_nil]; omega⟩
      case round =>
        obtain ⟨j, hj, rfl, rfl, hm2⟩ := hrel
        by_cases hlt2 : j < lb
        · obtain ⟨bb, ob, x, rfl, _, hcell, _, hmem, _, hsucc⟩ := hb.out.at hlt2
          have hxs := hxb.out x hmem
          have HS : Hid (tot (sb.take (j + 1)) = tot (sb.take j) + x.size) := hsucc
          clear hmem hsucc
          go_wp2
          all_goals try (go_ret; exact ⟨false, rfl, rfl, fun h => by cases h⟩)
          go_round
          case rel => exact ⟨j + 1, by omega, by go_num, by rw [HS.out]; go_num, by rw [HS.out]; omega⟩
          case measure => simp [intOf]; omega
        · obtain rfl : j = lb := by omega
          rw [hb.out.all] at hm2 ⊢
          go_wp2
          go_ret
          exact ⟨true, rfl, rfl, fun _ => hm2⟩

end Go.Proofs.Qxb6621708a

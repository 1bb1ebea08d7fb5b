/-
  String, zzReadsBack.
-/
import Derived.Test.Qxb6619421aDoorText
import Derived.Lib.SmallJoins
namespace Go.Proofs.Qxb6619421aDoor
open Go.RowKit Go.Sort Go.Joins

theorem toList_ne {x y : ByteArray} (h : x ≠ y) : (x.toList == y.toList) = false := by
  rw [beq_eq_false_iff_ne]
  intro e
  rw [ByteArray.toList_eq, ByteArray.toList_eq] at e
  exact h (ByteArray.ext (Array.toList_inj.mp e))

theorem below_grow (w : World) (n : Nat) (os : Array Obj) : Below w.heap.size w (grow (w.drewN n) os) :=
  ⟨rfl, rfl, rfl, by simp [grow, World.drewN], fun k hk => by show (w.heap ++ os)[k]? = w.heap[k]?; rw [Array.getElem?_append_left hk]⟩

set_option maxRecDepth 100000 in
set_option maxHeartbeats 400000 in
theorem string_any (k : Nat) (hk : k < 256) (w : World) (htab : Hid (Lib.TabIs Tryd.prog w Tryd.tabName .u64 Lib.pow10Tab)) :
    Calls Tryd.prog 4 #[.int .u8 k] w fun e w' => e = .returned (.string (str k)) ∧ Below w.heap.size w w' := by
  by_cases h : 1 ≤ k ∧ k ≤ 4
  · obtain rfl | rfl | rfl | rfl : k = 1 ∨ k = 2 ∨ k = 3 ∨ k = 4 := by omega
    all_goals
      go_enter Tryd.func4, Tryd.ntmps4
      go_wp2
      go_ret
      exact ⟨rfl, Below.refl _ _⟩
  · have HW : Hid _ := str_word k h hk
    have n1 : ((k : Int) == 1) = false := beq_eq_false_iff_ne.2 (by omega)
    have n2 : ((k : Int) == 2) = false := beq_eq_false_iff_ne.2 (by omega)
    have n3 : ((k : Int) == 3) = false := beq_eq_false_iff_ne.2 (by omega)
    have n4 : ((k : Int) == 4) = false := beq_eq_false_iff_ne.2 (by omega)
    have hl3 : (Lib.itoa (k : Int)).length ≤ 3 := by
      rw [itoa_digs k hk]
      unfold digs
      split
      · simp
      · split <;> simp
    clear h
    go_enter Tryd.func4, Tryd.ntmps4
    go_wp2_with fail
    refine (Tryd.strconv_Itoa (k : Int) (by omega) (by omega) w htab.out).mono ?_
    rintro e w1 ⟨rfl, n, os, hw1⟩
    subst hw1
    go_wp2_with fail
    go_ret
    exact ⟨by rw [← HW.out]; rfl, below_grow _ _ _⟩

set_option maxRecDepth 100000 in
set_option maxHeartbeats 400000 in
theorem back_any (k : Nat) (hk : k < 256) (w : World) :
    Calls Tryd.prog 5 #[.string (str k), .int .u8 k] w fun e w' => e = .returned (.bool true) ∧ w' = w := by
  have hc : Hid (∀ i (h : i < (str k).size), ((str k)[i]'h).toNat = ch k i) := str_at k
  by_cases h : 1 ≤ k ∧ k ≤ 4
  · obtain ⟨f1, f2, f3⟩ := word_facts ⟨k, hk⟩ h.1 h.2
    simp only at f1 f2 f3
    have HL := fun wx => low_any (str k) (txt k).length (ch k) f1 f2 (str_size k) hc f3 wx
    obtain ⟨g1, g2⟩ := h
    clear hc f1 f2 f3
    generalize str k = s at *
    go_enter Tryd.func5, Tryd.ntmps5
    go_wp2_with fail
    refine (HL _).mono ?_
    rintro e w1 ⟨rfl, hw1⟩
    subst w1
    go_wp2_with fail
    go_ret
    exact ⟨rfl, rfl⟩
  · have HL : Hid (∀ wx, Calls Tryd.prog 8 #[.string (str k)] wx fun e w' => e = .returned (.tuple #[.int .i64 (k : Int), .bool true]) ∧ w' = wx) := by
      intro wx
      obtain ⟨e0, e1, e2, e3, e4⟩ := head_facts ⟨k, hk⟩ h
      simp only at e0 e1 e2 e3 e4
      by_cases h1 : k < 10
      · obtain ⟨f1, f2, f3, f4⟩ := one_facts ⟨k, hk⟩ h h1
        simp only at f1 f2 f3 f4
        have := num1 (str k) (ch k) ((str_size k).trans f1) hc (fun i a b => f3 i b a) e0 e1 e2 e3 e4 f2 wx
        rw [f4] at this
        exact this
      · by_cases h2 : k < 100
        · obtain ⟨f1, f2, f3, f4, f5⟩ := two_facts ⟨k, hk⟩ h1 h2
          simp only at f1 f2 f3 f4 f5
          have := num2 (str k) (ch k) ((str_size k).trans f1) hc (fun i a b => f3 i b a) e0 e1 e2 e3 e4 f5 f2 wx
          rw [f4] at this
          exact this
        · obtain ⟨f1, f2, f3, f4, f5⟩ := three_facts ⟨k, hk⟩ h2
          simp only at f1 f2 f3 f4 f5
          have := num3 (str k) (ch k) ((str_size k).trans f1) hc (fun i a b => f3 i b a) e0 e1 e2 e3 e4 f5 f2 wx
          rw [f4] at this
          exact this
    clear hc
    generalize str k = s at *
    have hcase : (k : Int) < 1 ∨ 4 < (k : Int) := by omega
    clear h
    rcases hcase with h | h
    all_goals
      go_enter Tryd.func5, Tryd.ntmps5
      go_wp2_with fail
      refine (HL.out _).mono ?_
      rintro e w1 ⟨rfl, hw1⟩
      subst w1
      go_wp2_with fail
      go_ret
      exact ⟨rfl, rfl⟩

set_option maxRecDepth 100000 in
set_option maxHeartbeats 400000 in
theorem law_any (a b : Nat) (ha : a < 256) (hb : b < 256) (w : World) (htab : Hid (Lib.TabIs Tryd.prog w Tryd.tabName .u64 Lib.pow10Tab)) (g : Nat) (hg : Hid (Tryd.prog.globalNamed Tryd.tabName = some g)) :
    Calls Tryd.prog 3 #[.int .u8 a, .int .u8 b] w fun e w' => e = .returned (.bool true) ∧ Below w.heap.size w w' := by
  have HA := back_any a ha
  have HB := back_any b hb
  have HS := string_any a ha w htab
  have HT := fun w' h => string_any b hb w' h
  by_cases h : a = b
  · subst h
    generalize str a = s at *
    go_enter Tryd.func3, Tryd.ntmps3
    go_wp2_with fail
    refine HS.mono ?_
    rintro e w1 ⟨rfl, hb1⟩
    have ht1 : Hid (Lib.TabIs Tryd.prog w1 Tryd.tabName .u64 Lib.pow10Tab) := tab_stays hg.out htab.out hb1 (Nat.le_refl _)
    go_wp2_with fail
    refine (HT w1 ht1).mono ?_
    rintro e w2 ⟨rfl, hb2⟩
    have k2 : Hid (Below w.heap.size w w2) := hb1.trans (hb2.mono hb1.size)
    go_wp2_with fail
    refine (HA _).mono ?_
    rintro e w3 ⟨rfl, hw3⟩
    subst w3
    go_wp2_with fail
    refine (HA _).mono ?_
    rintro e w3 ⟨rfl, hw3⟩
    subst w3
    go_wp2_with fail
    go_ret
    exact ⟨rfl, k2.out⟩
  · have hne := toList_ne (str_ne ha hb h)
    have hi : ((a : Int) == (b : Int)) = false := beq_eq_false_iff_ne.2 (by omega)
    generalize str a = s at *
    generalize str b = t at *
    go_enter Tryd.func3, Tryd.ntmps3
    go_wp2_with fail
    refine HS.mono ?_
    rintro e w1 ⟨rfl, hb1⟩
    have ht1 : Hid (Lib.TabIs Tryd.prog w1 Tryd.tabName .u64 Lib.pow10Tab) := tab_stays hg.out htab.out hb1 (Nat.le_refl _)
    go_wp2_with fail
    refine (HT w1 ht1).mono ?_
    rintro e w2 ⟨rfl, hb2⟩
    have k2 : Hid (Below w.heap.size w w2) := hb1.trans (hb2.mono hb1.size)
    go_wp2_with fail
    refine (HA _).mono ?_
    rintro e w3 ⟨rfl, hw3⟩
    subst w3
    go_wp2_with fail
    refine (HB _).mono ?_
    rintro e w3 ⟨rfl, hw3⟩
    subst w3
    go_wp2_with fail
    go_ret
    exact ⟨rfl, k2.out⟩

end Go.Proofs.Qxb6619421aDoor

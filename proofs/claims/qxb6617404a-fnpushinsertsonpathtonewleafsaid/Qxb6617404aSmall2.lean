/-
  The heap order asked of items and of results; the shims.
-/
import Derived.Test.Qxb6617404aSmall
import Derived.Test.Qxb6617404aPlain
namespace Go.Proofs.Qxb6617404a
open Go.RowKit
attribute [local go_sem] run_store_float

def IsHeap (worst : Bool) (l : List It) (c : Bool) : Prop := c = true → Heap worst l

set_option maxHeartbeats 400000 in
theorem itemsHeap_any (a : Option Addr) (len cap : Nat) (worst : Bool) (l : List It) (w : World) (hl : len ≤ 4194304) (h : Hid (Items w a len l)) (hok : Hid (Ok l)) :
    Calls Try.prog 15 #[.slice a len cap, .bool worst] w (Tells w (IsHeap worst l)) := by
  go_enter Try.func15, Try.ntmps15
  go_wp2
  go_loopw [5] (fun i wr => ∃ k n : Nat, i = .int .i64 k ∧ 1 ≤ k ∧ (k ≤ len ∨ k = 1) ∧ wr = w.drewN n ∧ Hid (∀ j x y, j < k → 0 < j → l[j]? = some x → l[(j - 1) / 2]? = some y → kk worst y ≤ kk worst x)) (fun i _ => len - (intOf i).toNat)
  case atStart => exact ⟨1, 0, rfl, by omega, by omega, rfl, fun j x y hj => by omega⟩
  case round =>
    obtain ⟨k, n, rfl, hk1, hk, rfl, hno⟩ := hrel
    by_cases hlt : k < len
    · obtain ⟨p, hp⟩ : ∃ p, p = (k - 1) / 2 := ⟨_, rfl⟩
      obtain ⟨b, off, x, rfl, _, hgx, hc0, hc1⟩ := h.out.at hlt
      obtain ⟨b', off', y, hA, _, hgy, hd0, hd1⟩ := h.out.at (show p < len by omega)
      cases hA
      have i1 : (k : Int) < (len : Int) := by omega
      have hpi : ((k : Int) - 1) / 2 = (p : Int) := by omega
      have hpt : ((k : Int) - 1).tdiv 2 = (p : Int) := by rw [Int.tdiv_eq_ediv_of_nonneg (by omega)]; exact hpi
      have i2 : (p : Int) < (len : Int) := by omega
      have w1 : IntKind.i64.wrap ((k : Int) - 1) = (k : Int) - 1 := by rw [IntKind.wrap_i64]; omega
      have w2 : IntKind.i64.wrap (p : Int) = (p : Int) := by rw [IntKind.wrap_i64]; omega
      have HP : Hid (p = (k - 1) / 2) := hp
      clear hp
      have hbk : Hid (bf worst x.sim y.sim = decide (kk worst x < kk worst y)) := bf_kk worst (hok.out.at hgx) (hok.out.at hgy)
      have HX : Hid (l[k]? = some x) := hgx
      have HY : Hid (l[p]? = some y) := hgy
      clear hgx hgy
      go_wp2
      go_quiet ((go_at_call 12; refine (hbBefore_any worst x.sim y.sim _).mono ?_; rintro e w'' ⟨rfl, rfl⟩; exact ⟨rfl, _, rfl⟩))
      cases hb : bf worst x.sim y.sim with
      | true =>
        go_wp2
        go_ret
        exact ⟨false, rfl, ⟨n + nq, by simp⟩, fun h => by cases h⟩
      | false =>
        have HB : Hid (kk worst y ≤ kk worst x) := by
          have h1 := hbk.out
          rw [hb] at h1
          have := of_decide_eq_false h1.symm
          show _ ≤ _
          omega
        go_wp2
        go_roundw
        case rel =>
          exact ⟨k + 1, n + nq, by go_num, by omega, by omega, rfl, fun j u v hj hj0 hu hv => by
            by_cases e : j = k
            · subst e
              rw [← HP.out] at hv
              rw [← Option.some.inj (HX.out.symm.trans hu), ← Option.some.inj (HY.out.symm.trans hv)]
              exact HB.out
            · exact hno.out j u v (by omega) hj0 hu hv⟩
        case measure => simp [intOf]; omega
    · go_wp2
      go_ret
      refine ⟨true, rfl, ⟨n, rfl⟩, fun _ j x y hj hx hy => ?_⟩
      have h1 := h.out.1
      have h2 := get_lt hx
      exact hno.out j x y (by omega) hj hx hy

set_option maxHeartbeats 400000 in
theorem resultsHeap_yes (a : Option Addr) (len cap : Nat) (worst : Bool) (l : List It) (w : World) (hl : len ≤ 4194304) (h : Hid (Items w a len l)) (hok : Hid (Ok l)) (hheap : Hid (Heap worst l)) :
    Calls Try.prog 18 #[.slice a len cap, .bool worst] w fun e w' => e = .returned (.bool true) ∧ ∃ n, w' = w.drewN n := by
  go_enter Try.func18, Try.ntmps18
  go_wp2
  go_loopw [5] (fun i wr => ∃ k n : Nat, i = .int .i64 k ∧ 1 ≤ k ∧ (k ≤ len ∨ k = 1) ∧ wr = w.drewN n) (fun i _ => len - (intOf i).toNat)
  case atStart => exact ⟨1, 0, rfl, by omega, by omega, rfl⟩
  case round =>
    obtain ⟨k, n, rfl, hk1, hk, rfl⟩ := hrel
    by_cases hlt : k < len
    · obtain ⟨p, hp⟩ : ∃ p, p = (k - 1) / 2 := ⟨_, rfl⟩
      obtain ⟨b, off, x, rfl, _, hgx, hc0, hc1⟩ := h.out.at hlt
      obtain ⟨b', off', y, hA, _, hgy, hd0, hd1⟩ := h.out.at (show p < len by omega)
      cases hA
      have i1 : (k : Int) < (len : Int) := by omega
      have hpi : ((k : Int) - 1) / 2 = (p : Int) := by omega
      have hpt : ((k : Int) - 1).tdiv 2 = (p : Int) := by rw [Int.tdiv_eq_ediv_of_nonneg (by omega)]; exact hpi
      have i2 : (p : Int) < (len : Int) := by omega
      have w1 : IntKind.i64.wrap ((k : Int) - 1) = (k : Int) - 1 := by rw [IntKind.wrap_i64]; omega
      have w2 : IntKind.i64.wrap (p : Int) = (p : Int) := by rw [IntKind.wrap_i64]; omega
      have HP : Hid (p = (k - 1) / 2) := hp
      clear hp
      have hbk : bf worst x.sim y.sim = false := by
        rw [bf_kk worst (hok.out.at hgx) (hok.out.at hgy)]
        have := hheap.out k x y (by omega) hgx (by rw [← HP.out]; exact hgy)
        exact decide_eq_false (by omega)
      clear hgx hgy
      go_wp2
      go_quiet ((go_at_call 12; refine (hbBefore_any worst x.sim y.sim _).mono ?_; rintro e w'' ⟨rfl, rfl⟩; exact ⟨rfl, _, rfl⟩))
      rw [hbk]
      go_wp2
      go_roundw
      case rel => exact ⟨k + 1, n + nq, by go_num, by omega, by omega, rfl⟩
      case measure => simp [intOf]; omega
    · go_wp2
      go_ret
      exact ⟨rfl, n, rfl⟩

end Go.Proofs.Qxb6617404a

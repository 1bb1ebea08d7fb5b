/-
  THE SMALL FUNCTIONS OF THE SEAT, MORE: the bound of the second law; 'starts with', 'ends with', 'has the byte', 'same strings'.
-/
import Derived.Test.Qxb6621708aLeaf
namespace Go.Proofs.Qxb6621708a
open Go.RowKit

set_option maxHeartbeats 400000 in
theorem starts_yes (s p : ByteArray) (w : World) (hs : s.size ≤ 4194304) (hsz : p.size ≤ s.size) (h : Hid (∀ k (h1 : k < s.size) (h2 : k < p.size), s[k] = p[k])) :
    Calls Try.prog 9 #[.string s, .string p] w fun e w' => e = .returned (.bool true) ∧ ∃ n, w' = w.drewN n := by
  go_enter Try.func9, Try.ntmps9
  go_wp2
  go_loopw [5] (fun i wr => ∃ k n : Nat, k ≤ p.size ∧ i = .int .i64 k ∧ wr = w.drewN n) (fun i _ => p.size - (intOf i).toNat)
  case atStart => exact ⟨0, 0, Nat.zero_le _, rfl, rfl⟩
  case round =>
    obtain ⟨k, n, hk, rfl, rfl⟩ := hrel
    by_cases hlt : k < p.size
    · have hls : k < s.size := by omega
      have he := h.out k hls hlt
      have i1 : (k : Int) < (s.size : Int) := by omega
      have i2 : (k : Int) < (p.size : Int) := by omega
      go_wp2
      go_quiet (fail)
      go_wp2
      go_roundw
      case rel => exact ⟨k + 1, n + nq, by omega, by go_num, rfl⟩
      case measure => simp [intOf]; omega
    · go_wp2
      go_ret
      exact ⟨rfl, n, rfl⟩

set_option maxHeartbeats 400000 in
theorem ends_yes (s p : ByteArray) (w : World) (hs : s.size ≤ 4194304) (hsz : p.size ≤ s.size) (h : Hid (∀ k (h1 : s.size - p.size + k < s.size) (h2 : k < p.size), s[s.size - p.size + k] = p[k])) :
    Calls Try.prog 10 #[.string s, .string p] w fun e w' => e = .returned (.bool true) ∧ ∃ n, w' = w.drewN n := by
  obtain ⟨d, hd⟩ : ∃ d, d = s.size - p.size := ⟨_, rfl⟩
  rw [← hd] at h
  have hds : s.size = d + p.size := by omega
  have hdi : (s.size : Int) - (p.size : Int) = (d : Int) := by omega
  have HD : Hid (s.size = d + p.size) := hds
  clear hds hd
  go_enter Try.func10, Try.ntmps10
  go_wp2
  go_loopw [6] (fun i wr => ∃ k n : Nat, k ≤ p.size ∧ i = .int .i64 k ∧ wr = w.drewN n) (fun i _ => p.size - (intOf i).toNat)
  case atStart => exact ⟨0, 0, Nat.zero_le _, rfl, rfl⟩
  case round =>
    obtain ⟨k, n, hk, rfl, rfl⟩ := hrel
    by_cases hlt : k < p.size
    · have hls : d + k < s.size := by have := HD.out; omega
      have he := h.out k hls hlt
      have i1 : (d : Int) + (k : Int) < (s.size : Int) := by omega
      have i2 : (k : Int) < (p.size : Int) := by omega
      have i3 : IntKind.i64.wrap ((d : Int) + (k : Int)) = (d : Int) + (k : Int) := by rw [IntKind.wrap_i64]; omega
      have i4 : ((d : Int) + (k : Int)).toNat = d + k := by omega
      have i5 : (0 : Int) ≤ (d : Int) + (k : Int) := by omega
      go_wp2
      go_quiet (fail)
      go_wp2
      go_roundw
      case rel => exact ⟨k + 1, n + nq, by omega, by go_num, rfl⟩
      case measure => simp [intOf]; omega
    · go_wp2
      go_ret
      exact ⟨rfl, n, rfl⟩

/-- Is the byte among those of s? -/
def hasB (s : ByteArray) (c : UInt8) : Bool := s.data.toList.contains c

theorem hasB_hit (s : ByteArray) (c : UInt8) (k : Nat) (h : k < s.size) (he : s[k].toNat = c.toNat) : hasB s c = true := by
  have h' : s[k] = c := UInt8.toNat_inj.1 he
  have hm : s[k] ∈ s.data.toList := by
    show s.data[k] ∈ s.data.toList
    rw [Array.mem_toList_iff]; exact Array.getElem_mem h
  rw [hasB, List.contains_iff_mem, ← h']; exact hm

theorem hasB_miss (s : ByteArray) (c : UInt8) (h : ∀ k (hk : k < s.size), s[k].toNat ≠ c.toNat) : hasB s c = false := by
  rw [hasB, Bool.eq_false_iff]
  intro hc
  rw [List.contains_iff_mem, Array.mem_toList_iff, Array.mem_iff_getElem] at hc
  obtain ⟨k, hk, he⟩ := hc
  exact h k hk (by show s.data[k].toNat = _; rw [he])

set_option maxHeartbeats 400000 in
theorem has_any (s : ByteArray) (c : UInt8) (w : World) (hs : s.size ≤ 4194304) :
    Calls Try.prog 12 #[.string s, .int .u8 c.toNat] w fun e w' => e = .returned (.bool (hasB s c)) ∧ w' = w := by
  go_enter Try.func12, Try.ntmps12
  go_wp2
  go_loop [5] (fun i => ∃ k : Nat, k ≤ s.size ∧ i = .int .i64 k ∧ Hid (∀ j (hj : j < s.size), j < k → s[j].toNat ≠ c.toNat)) (fun i => s.size - (intOf i).toNat)
  case atStart => exact ⟨0, Nat.zero_le _, rfl, fun j _ h => by omega⟩
  case round =>
    obtain ⟨k, hk, rfl, hno⟩ := hrel
    by_cases hlt : k < s.size
    · by_cases he : s[k].toNat = c.toNat
      · have H1 : Hid (hasB s c = true) := hasB_hit s c k hlt he
        have he2 : ((s[k].toNat : Int) == (c.toNat : Int)) = true := by simp [he]
        clear he
        go_wp2
        go_ret
        exact ⟨by rw [H1.out]; rfl, rfl⟩
      · have he2 : ((s[k].toNat : Int) == (c.toNat : Int)) = false := by
          rw [beq_eq_false_iff_ne]; omega
        have HE : Hid (¬ s[k].toNat = c.toNat) := he
        clear he
        go_wp2
        go_round
        case rel =>
          exact ⟨k + 1, by omega, by go_num, fun j hj hjk => by
            by_cases e : j = k
            · subst e; exact HE.out
            · exact hno.out j hj (by omega)⟩
        case measure => simp [intOf]; omega
    · have H1 : Hid (hasB s c = false) := hasB_miss s c (fun j hj => hno.out j hj (by omega))
      go_wp2
      go_ret
      exact ⟨by rw [H1.out]; rfl, rfl⟩

end Go.Proofs.Qxb6621708a

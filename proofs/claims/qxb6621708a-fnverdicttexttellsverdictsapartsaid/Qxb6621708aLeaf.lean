/-
  THE SMALL FUNCTIONS OF THE SEAT: what each call returns; none writes.
-/
import Derived.Test.Qxb6621708aRows
import Derived.WalkKit
import Derived.WalkSpells
import Derived.WalkLawsBesides
import Derived.Deep.QuietTactic
import Derived.BigQuiet
namespace Go.Proofs.Qxb6621708a
open Go.RowKit

/-- What a walk is told of a slice of strings that came in: its elements. -/
def Strs (w : World) (a : Option Addr) (len : Nat) (ss : List ByteArray) : Prop :=
  ss.length = len ∧ (0 < len → ∃ b off, a = some ⟨b, off, none⟩ ∧ b < w.heap.size ∧ ∀ k x, ss[k]? = some x → w.cell? ⟨b, off + k, none⟩ = some (.string x))

/-- The lengths, added up. -/
def tot (ss : List ByteArray) : Nat := (ss.map (·.size)).sum

theorem tot_take_succ (ss : List ByteArray) (k : Nat) (x : ByteArray) (h : ss[k]? = some x) : tot (ss.take (k + 1)) = tot (ss.take k) + x.size := by
  rw [List.take_add_one, h]; simp [tot]

theorem tot_take_le (ss : List ByteArray) (k : Nat) : tot (ss.take k) ≤ tot ss := by
  induction ss generalizing k with
  | nil => simp [tot]
  | cons y r ih =>
    cases k with
    | zero => simp [tot]
    | succ k => have := ih k; simp only [tot, List.take_succ_cons, List.map_cons, List.sum_cons] at this ⊢; omega

theorem elem_le (ss : List ByteArray) (k : Nat) (x : ByteArray) (h : ss[k]? = some x) : x.size ≤ tot ss := by
  have h1 := tot_take_succ ss k x h
  have h2 := tot_take_le ss (k + 1)
  omega

set_option maxHeartbeats 400000 in
theorem count_any (n : Int) (a : Option Addr) (len cap : Nat) (ss : List ByteArray) (w : World) (h0 : 0 ≤ n) (h1 : n ≤ 1048576) (hs : Strs w a len ss) (ht : tot ss ≤ 1048576) (hl : len ≤ 1048576) :
    Calls Try.prog 6 #[.int .i64 n, .slice a len cap] w fun e w' => ∃ m : Int, e = .returned (.int .i64 m) ∧ 0 ≤ m ∧ m ≤ 2097168 ∧ w' = w := by
  obtain ⟨hlen, hcells⟩ := hs
  by_cases hz : len = 0
  · subst hz
    clear hcells hlen ht
    go_enter Try.func6, Try.ntmps6
    go_wp2
    refine wp_loop_rounds 1 ?_
    rw [rounds_succ]
    go_wp2
    go_ret
    exact ⟨n, rfl, h0, by omega, rfl⟩
  · obtain ⟨b, off, rfl, hb, hc⟩ := hcells (by omega)
    clear hcells
    have HL : Hid (ss.length = len) := hlen
    clear hlen
    have HC : Hid (∀ k x, ss[k]? = some x → w.cell? ⟨b, off + k, none⟩ = some (.string x)) := hc
    clear hc
    go_enter Try.func6, Try.ntmps6
    go_wp2
    go_loop [0, 5] (fun v i => ∃ (k : Nat) (m : Int), k ≤ len ∧ 0 ≤ m ∧ m ≤ 1048576 ∧ i = .int .i64 k ∧ v = .int .i64 m) (fun _ i => len - (intOf i).toNat)
    case atStart => exact ⟨0, n, Nat.zero_le _, h0, h1, rfl, rfl⟩
    case round =>
      obtain ⟨k, m, hk, hm0, hm1, rfl, rfl⟩ := hrel
      by_cases hlt : k < len
      · have hkl : k < ss.length := by rw [HL.out]; exact hlt
        have hcell := HC.out k ss[k] (List.getElem?_eq_getElem hkl)
        have hxs := elem_le ss k ss[k] (List.getElem?_eq_getElem hkl)
        generalize ss[k] = x at hcell hxs
        clear hkl
        go_wp2
        · go_ret
          exact ⟨_, rfl, by omega, by omega, rfl⟩
        · go_round
          case rel => exact ⟨k + 1, _, by omega, by omega, by omega, by go_num, rfl⟩
          case measure => simp [intOf]; omega
      · go_wp2
        go_ret
        exact ⟨m, rfl, hm0, by omega, rfl⟩

theorem Strs.at {w : World} {a : Option Addr} {len : Nat} {ss : List ByteArray} (h : Strs w a len ss) {k : Nat} (hk : k < len) :
    ∃ b off x, a = some ⟨b, off, none⟩ ∧ b < w.heap.size ∧ w.cell? ⟨b, off + k, none⟩ = some (.string x) ∧ ss[k]? = some x ∧ x ∈ ss ∧ x.size ≤ tot ss ∧ tot (ss.take (k + 1)) = tot (ss.take k) + x.size := by
  obtain ⟨hl, hc⟩ := h
  obtain ⟨b, off, ha, hb, hcc⟩ := hc (by omega)
  have hg : ss[k]? = some (ss[k]'(by omega)) := List.getElem?_eq_getElem (by omega)
  exact ⟨b, off, _, ha, hb, hcc k _ hg, hg, List.getElem_mem _, elem_le _ _ _ hg, tot_take_succ _ _ _ hg⟩

theorem Strs.all {w : World} {a : Option Addr} {len : Nat} {ss : List ByteArray} (h : Strs w a len ss) : ss.take len = ss := by
  rw [← h.1, List.take_length]

/-- A call that answers a bool and turns nothing. -/
def Answers (w : World) (p : Bool → Prop) (e : Ending) (w' : World) : Prop := ∃ c, e = .returned (.bool c) ∧ w' = w ∧ p c

/-- 'yes' says that n is within the bound. -/
def Fits (n : Nat) (c : Bool) : Prop := c = true → n ≤ 1048576

theorem tot_nil : tot [] = 0 := rfl

set_option maxHeartbeats 400000 in
theorem bytes5 (id o : ByteArray) (a : Option Addr) (la ca : Nat) (sa : List ByteArray) (b : Option Addr) (lb cb : Nat) (sb : List ByteArray) (w : World)
    (hid : id.size ≤ 9223372036854775807) (ho : o.size ≤ 9223372036854775807) (hla : la ≤ 9223372036854775807) (hlb : lb ≤ 9223372036854775807)
    (ha : Hid (Strs w a la sa)) (hb : Hid (Strs w b lb sb)) (hxa : Hid (∀ x ∈ sa, x.size ≤ 9223372036854775807)) (hxb : Hid (∀ x ∈ sb, x.size ≤ 9223372036854775807)) :
    Calls Try.prog 5 #[.string id, .string o, .slice a la ca, .slice b lb cb] w (Answers w (Fits (id.size + o.size + la + tot sa + lb + tot sb))) := by
  go_enter Try.func5, Try.ntmps5
  go_wp2
  all_goals try (go_ret; exact ⟨false, rfl, rfl, fun h => by cases h⟩)
  go_loop [9, 10] (fun v i => ∃ (k : Nat), k ≤ la ∧ i = .int .i64 k ∧ v = .int .i64 ((id.size + o.size + la + tot (sa.take k) : Nat) : Int) ∧ id.size + o.size + la + tot (sa.take k) ≤ 1048576) (fun _ i => la - (intOf i).toNat)
  case atStart => exact ⟨0, Nat.zero_le _, rfl, by simp [tot_nil], by simp [tot_nil]; omega⟩
  case round =>
    obtain ⟨k, hk, rfl, rfl, hm⟩ := hrel
    by_cases hlt : k < la
    · obtain ⟨ba, oa, x, rfl, _, hcell, _, hmem, _, hsucc⟩ := ha.out.at hlt
      have hxs := hxa.out x hmem
      have HS : Hid (tot (sa.take (k + 1)) = tot (sa.take k) + x.size) := hsucc
      clear hmem hsucc
      go_wp2
      all_goals try (go_ret; exact ⟨false, rfl, rfl, fun h => by cases h⟩)
      go_round
      case rel => exact ⟨k + 1, by omega, by go_num, by rw [HS.out]; go_num, by rw [HS.out]; omega⟩
      case measure => simp [intOf]; omega
    · obtain rfl : k = la := by omega
      rw [ha.out.all] at hm ⊢
      go_wp2
      all_goals try (go_ret; exact ⟨false, rfl, rfl, fun h => by cases h⟩)
      go_loop [9, 11] (fun v i => ∃ (j : Nat), j ≤ lb ∧ i = .int .i64 j ∧ v = .int .i64 ((id.size + o.size + k + tot sa + lb + tot (sb.take j) : Nat) : Int) ∧ id.size + o.size + k + tot sa + lb + tot (sb.take j) ≤ 1048576) (fun _ i => lb - (intOf i).toNat)
      case atStart => exact ⟨0, Nat.zero_le _, rfl, by simp [tot_nil], by simp [tot_nil]; omega⟩
      case round =>
        obtain ⟨j, hj, rfl, rfl, hm2⟩ := hrel
        by_cases hlt2 : j < lb
        · obtain ⟨bb, ob, x, rfl, _, hcell, _, hmem, _, hsucc⟩ := hb.out.at hlt2
          have hxs := hxb.out x hmem
          have HS : Hid (tot (sb.take (j + 1)) = tot (sb.take j) + x.size) := hsucc
          clear hmem hsucc
          go_wp2
          all_goals try (go_ret; exact ⟨false, rfl, rfl, fun h => by cases h⟩)
          go_round
          case rel => exact ⟨j + 1, by omega, by go_num, by rw [HS.out]; go_num, by rw [HS.out]; omega⟩
          case measure => simp [intOf]; omega
        · obtain rfl : j = lb := by omega
          rw [hb.out.all] at hm2 ⊢
          go_wp2
          go_ret
          exact ⟨true, rfl, rfl, fun _ => hm2⟩

end Go.Proofs.Qxb6621708a

/-
  zzReasonsOfB1: the two lists, one behind the other, in a row of the call's own.
-/
import Derived.Test.Qxb6621708aLeaf3
import Derived.Deep.OwnRows
import Derived.Lib.SliceRun
namespace Go.Proofs.Qxb6621708a
open Go.RowKit

theorem Try.info35 : (Try.prog.info? 35).map (fun i => (i.zero, i.size, i.bytes)) = some (some (.string ByteArray.empty), 1, 16) := by kernel_rfl
theorem Try.info9 : (Try.prog.info? 9).map (fun i => (i.zero, i.size, i.bytes)) = some (some (.string ByteArray.empty), 1, 16) := by kernel_rfl

/-- What a slice handed back holds. -/
def Gave (w : World) (ss : List ByteArray) (e : Ending) (w' : World) : Prop :=
  ∃ r n c, e = .returned (.slice r n c) ∧ Strs w' r n ss ∧ Below w.heap.size w w'

theorem getElem?_of_lt (ss : List ByteArray) (k : Nat) (x : ByteArray) (h : ss[k]? = some x) : k < ss.length := by
  rcases Nat.lt_or_ge k ss.length with h1 | h1
  · exact h1
  · rw [List.getElem?_eq_none h1] at h; cases h

theorem Strs.nil_len {w : World} {len : Nat} {ss : List ByteArray} (h : Strs w none len ss) : ss = [] := by
  obtain ⟨h1, h2⟩ := h
  rcases Nat.eq_zero_or_pos len with h0 | h0
  · exact List.eq_nil_of_length_eq_zero (by omega)
  · obtain ⟨_, _, he, _⟩ := h2 h0; cases he

theorem Strs.empty (w : World) (a : Option Addr) : Strs w a 0 [] := ⟨rfl, fun h => by omega⟩

theorem Strs.below {w w' : World} {a : Option Addr} {len : Nat} {ss : List ByteArray} (h : Strs w a len ss) (hb : Below w.heap.size w w') : Strs w' a len ss := by
  obtain ⟨h1, h2⟩ := h
  refine ⟨h1, fun h0 => ?_⟩
  obtain ⟨b, o, ha, hlt, hc⟩ := h2 h0
  have hsz := hb.size
  exact ⟨b, o, ha, by omega, fun k x hx => by rw [hb.cell (by exact hlt)]; exact hc k x hx⟩

/-- A row that holds the strings ss from its head on. -/
theorem Strs.of_row {w : World} {g t n : Nat} {f : Nat → Value} {ss : List ByteArray} (h : w.rowIs g t n f) (hn : ss.length = n) (hf : ∀ i x, ss[i]? = some x → f i = .string x) : Strs w (some ⟨g, 0, none⟩) n ss := by
  refine ⟨hn, fun _ => ⟨g, 0, rfl, h.lt, fun k x hx => ?_⟩⟩
  have := getElem?_of_lt ss k x hx
  rw [Nat.zero_add, h.cell (by omega), hf k x hx]

set_option maxHeartbeats 400000 in
theorem reasons_nil (ca cb la lb : Nat) (sa sb : List ByteArray) (w : World) (ha : Hid (Strs w none la sa)) (hb : Hid (Strs w none lb sb)) :
    Calls Try.prog 7 #[.slice none la ca, .slice none lb cb] w (Gave w (sa ++ sb)) := by
  have heq := fun (wx : World) (x : Option Addr) (l c : Nat) => Lib.run_eql_slice_nil (P := Try.prog) wx 22 9 x l c 0 0 Try.underlying22
  have H1 : Hid (sa ++ sb = []) := by rw [ha.out.nil_len, hb.out.nil_len]; rfl
  go_enter Try.func7, Try.ntmps7
  go_wp2
  go_ret
  exact ⟨none, 0, 0, rfl, by rw [H1.out]; exact Strs.empty _ _, Below.refl _ _⟩

set_option maxHeartbeats 400000 in
theorem reasons_made (a : Option Addr) (la ca : Nat) (sa : List ByteArray) (b : Option Addr) (lb cb : Nat) (sb : List ByteArray) (w : World)
    (hla : la ≤ 1048576) (hlb : lb ≤ 1048576) (ha : Hid (Strs w a la sa)) (hb : Hid (Strs w b lb sb)) (hn : (a.isNone && b.isNone) = false) :
    Calls Try.prog 7 #[.slice a la ca, .slice b lb cb] w (Gave w (sa ++ sb)) := by
  have heq := fun (wx : World) (x : Option Addr) (l c : Nat) => Lib.run_eql_slice_nil (P := Try.prog) wx 22 9 x l c 0 0 Try.underlying22
  have hmk := run_make_row' (P := Try.prog) 26 35 (.string ByteArray.empty) 16 Try.underlying26 Try.info35 rfl .i64 .i64 (la + lb) (by omega) (by omega)
  rw [show ((la + lb : Nat) : Int) = (la : Int) + (lb : Int) from by omega] at hmk
  obtain ⟨B, hB⟩ : ∃ B, B = w.heap.size := ⟨_, rfl⟩
  have hla1 := ha.out.1
  have hlb1 := hb.out.1
  have HA : Hid (sa.length = la) := hla1
  have HB : Hid (sb.length = lb) := hlb1
  clear hla1 hlb1
  rcases (show a.isNone = false ∨ (a.isNone = true ∧ b.isNone = false) from by cases h1 : a.isNone <;> cases h2 : b.isNone <;> simp_all) with h1 | ⟨h1, h2⟩
  all_goals
    clear hn
    go_enter Try.func7, Try.ntmps7
    go_wp2
    go_loopw [6] (fun i wr => ∃ (k : Nat) (f : Nat → Value), k ≤ la ∧ i = .int .i64 k ∧ Hid (wr.rowIs w.heap.size 35 (la + lb) f) ∧ Hid (∀ i x, i < k → sa[i]? = some x → f i = .string x) ∧ Hid (Below w.heap.size w wr)) (fun i _ => la - (intOf i).toNat)
    case atStart => exact ⟨0, _, Nat.zero_le _, rfl, World.rowIs_made _ _ _ _, fun i x h => by omega, (Below.refl _ _).alloc (Nat.le_refl _) _⟩
    case round =>
      obtain ⟨k, f, hk, rfl, hrow, hf, hbel⟩ := hrel
      by_cases hlt : k < la
      · obtain ⟨ba, oa, x, rfl, hba, hcell, hgx, _, _, _⟩ := ha.out.at hlt
        have hcell2 : wr.cell? ⟨ba, oa + k, none⟩ = some (.string x) := by rw [hbel.out.cell (by exact hba)]; exact hcell
        have hc1 : wr.cell? ⟨w.heap.size, k, none⟩ = some (f k) := hrow.out.cell (by omega)
        have hc2 : wr.frozen? ⟨w.heap.size, k, none⟩ = false := hrow.out.frozen k
        have HX : Hid (sa[k]? = some x) := hgx
        clear hgx hcell
        go_wp2
        go_roundw
        case rel =>
          exact ⟨k + 1, _, by omega, by go_num, hrow.out.set k (.string x), fun i y hi hy => by
            by_cases e : i = k
            · subst e; rw [if_pos rfl, Option.some.inj (HX.out.symm.trans hy)]
            · rw [if_neg e]; exact hf.out i y (by omega) hy, hbel.out.setCell (Nat.le_refl _) _⟩
        case measure => simp [intOf]; omega
      · obtain rfl : k = la := by omega
        go_wp2
        go_loopw [7] (fun i wr => ∃ (j : Nat) (f : Nat → Value), j ≤ lb ∧ i = .int .i64 j ∧ Hid (wr.rowIs w.heap.size 35 (k + lb) f) ∧ Hid (∀ i x, i < k + j → (sa ++ sb)[i]? = some x → f i = .string x) ∧ Hid (Below w.heap.size w wr)) (fun i _ => lb - (intOf i).toNat)
        case atStart =>
          exact ⟨0, f, Nat.zero_le _, rfl, hrow, fun i x hi hx => by
            rw [List.getElem?_append_left (by rw [HA.out]; omega)] at hx
            exact hf.out i x (by omega) hx, hbel⟩
        case round =>
          obtain ⟨j, f2, hj, rfl, hrow2, hf2, hbel2⟩ := hrel
          by_cases hlt2 : j < lb
          · obtain ⟨bb, ob, x, rfl, hbb, hcell, hgx, _, _, _⟩ := hb.out.at hlt2
            have hcell2 : wr.cell? ⟨bb, ob + j, none⟩ = some (.string x) := by rw [hbel2.out.cell (by exact hbb)]; exact hcell
            have hc1 : wr.cell? ⟨w.heap.size, k + j, none⟩ = some (f2 (k + j)) := hrow2.out.cell (by omega)
            have hc2 : wr.frozen? ⟨w.heap.size, k + j, none⟩ = false := hrow2.out.frozen (k + j)
            have HX : Hid (sb[j]? = some x) := hgx
            clear hgx hcell
            go_wp2
            go_roundw
            case rel =>
              exact ⟨j + 1, _, by omega, by go_num, hrow2.out.set (k + j) (.string x), fun i y hi hy => by
                by_cases e : i = k + j
                · subst e
                  rw [List.getElem?_append_right (by rw [HA.out]; omega), HA.out, Nat.add_sub_cancel_left] at hy
                  rw [if_pos rfl, Option.some.inj (HX.out.symm.trans hy)]
                · rw [if_neg e]; exact hf2.out i y (by omega) hy, hbel2.out.setCell (Nat.le_refl _) _⟩
            case measure => simp [intOf]; omega
          · obtain rfl : j = lb := by omega
            go_wp2
            go_ret
            exact ⟨_, _, _, rfl, Strs.of_row hrow2.out (by rw [List.length_append, HA.out, HB.out]) (fun i x hx => hf2.out i x (by have := getElem?_of_lt _ _ _ hx; rw [List.length_append, HA.out, HB.out] at this; exact this) hx), hbel2.out⟩

theorem reasons_any (a : Option Addr) (la ca : Nat) (sa : List ByteArray) (b : Option Addr) (lb cb : Nat) (sb : List ByteArray) (w : World)
    (hla : la ≤ 1048576) (hlb : lb ≤ 1048576) (ha : Hid (Strs w a la sa)) (hb : Hid (Strs w b lb sb)) :
    Calls Try.prog 7 #[.slice a la ca, .slice b lb cb] w (Gave w (sa ++ sb)) := by
  by_cases hn : (a.isNone && b.isNone) = true
  · rw [Bool.and_eq_true, Option.isNone_iff_eq_none, Option.isNone_iff_eq_none] at hn
    obtain ⟨rfl, rfl⟩ := hn
    exact reasons_nil ca cb la lb sa sb w ha hb
  · exact reasons_made a la ca sa b lb cb sb w hla hlb ha hb (Bool.eq_false_iff.2 hn)

end Go.Proofs.Qxb6621708a

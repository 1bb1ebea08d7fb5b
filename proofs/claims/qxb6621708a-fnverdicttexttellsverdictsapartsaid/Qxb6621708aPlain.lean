/-
  THE PLAIN LAWS on what Text writes: no Go in sight.
-/
import Derived.Test.Qxb6621708aText
namespace Go.Proofs.Qxb6621708a
open Go.RowKit

theorem get_data (s : ByteArray) (k : Nat) (h : k < s.size) : s[k] = s.data.toList[k]'(by simpa using h) := by
  show s.data[k] = _
  rw [Array.getElem_toList]

theorem size_data (s : ByteArray) : s.data.toList.length = s.size := by simp

/-- A string that begins with another. -/
theorem prefix_get (s p : ByteArray) (r : List UInt8) (h : s.data.toList = p.data.toList ++ r) : ∀ k (h1 : k < s.size) (h2 : k < p.size), s[k] = p[k] := by
  intro k h1 h2
  rw [get_data s k h1, get_data p k h2]
  simp only [h]
  rw [List.getElem_append_left]

/-- A string that ends in another. -/
theorem suffix_get (s p : ByteArray) (q : List UInt8) (h : s.data.toList = q ++ p.data.toList) : ∀ k (h1 : s.size - p.size + k < s.size) (h2 : k < p.size), s[s.size - p.size + k] = p[k] := by
  intro k h1 h2
  have hl := congrArg List.length h
  rw [List.length_append, size_data, size_data] at hl
  rw [get_data s _ h1, get_data p k h2]
  simp only [h]
  rw [List.getElem_append_right (by omega)]
  congr 1
  omega

theorem joinTail_append (xs ys : List (List UInt8)) : Lib.joinTail [44] (xs ++ ys) = Lib.joinTail [44] xs ++ Lib.joinTail [44] ys := by
  simp [Lib.joinTail]

theorem joinTail_cons (y : List UInt8) (r : List (List UInt8)) : Lib.joinTail [44] (y :: r) = [44] ++ Lib.join (y :: r) [44] := by
  rw [Lib.join_cons]; simp [Lib.joinTail]

theorem join_append (xs ys : List (List UInt8)) (hx : xs ≠ []) (hy : ys ≠ []) : Lib.join (xs ++ ys) [44] = Lib.join xs [44] ++ [44] ++ Lib.join ys [44] := by
  match xs, ys, hx, hy with
  | x :: r, y :: t, _, _ =>
    rw [List.cons_append, Lib.join_cons, joinTail_append, joinTail_cons, Lib.join_cons x r]
    simp only [List.append_assoc]

theorem join_last (xs : List (List UInt8)) (l : List UInt8) : ∃ q, Lib.join (xs ++ [l]) [44] = q ++ l := by
  by_cases h : xs = []
  · subst h; exact ⟨[], by rw [List.nil_append, Lib.join_one]; rfl⟩
  · refine ⟨Lib.join xs [44] ++ [44], ?_⟩
    rw [join_append xs [l] h (by simp), Lib.join_one]

theorem map_ne (ss : List ByteArray) (h : ss ≠ []) : ss.map (·.data.toList) ≠ [] := by
  intro e; exact h (by simpa using e)

theorem textB_data (o : ByteArray) (ss : List ByteArray) (h : ss ≠ []) : (textB o ss).data.toList = o.data.toList ++ ([32] ++ Lib.join (ss.map (·.data.toList)) [44]) := by
  show (txt o.data.toList (ss.map (·.data.toList))) = _
  rw [txt, if_neg (map_ne ss h), List.append_assoc]

theorem textB_size (o : ByteArray) (ss : List ByteArray) (h : ss ≠ []) : (textB o ss).size = o.size + ss.length + tot ss := by
  have h1 := congrArg List.length (textB_data o ss h)
  rw [size_data] at h1
  rw [h1, List.length_append, size_data, List.length_append]
  match ss, h with
  | x :: r, _ =>
    rw [← lens_tot, List.map_cons, Lib.join_length]
    simp
    omega

theorem textB_size_le (o : ByteArray) (ss : List ByteArray) : (textB o ss).size ≤ o.size + ss.length + tot ss := by
  by_cases h : ss = []
  · subst h; rw [textB_nil]; omega
  · rw [textB_size o ss h]; exact Nat.le_refl _

theorem textB_space (o : ByteArray) (ss : List ByteArray) (h : ss ≠ []) : ∃ hlt : o.size < (textB o ss).size, (textB o ss)[o.size] = 32 := by
  have hp : 0 < ss.length := List.length_pos_iff.2 h
  have hlt : o.size < (textB o ss).size := by rw [textB_size o ss h]; omega
  refine ⟨hlt, ?_⟩
  rw [get_data _ _ hlt]
  simp only [textB_data o ss h]
  rw [List.getElem_append_right (by rw [size_data]; omega)]
  simp

theorem textB_last (o : ByteArray) (ss : List ByteArray) (l : ByteArray) (h : ss.getLast? = some l) : ∃ q, (textB o ss).data.toList = q ++ l.data.toList := by
  obtain ⟨r, rfl⟩ : ∃ r, ss = r ++ [l] := List.getLast?_eq_some_iff.1 h
  rw [textB_data o _ (by simp)]
  obtain ⟨q, hq⟩ := join_last (r.map (·.data.toList)) l.data.toList
  refine ⟨o.data.toList ++ ([32] ++ q), ?_⟩
  rw [List.map_append, List.map_cons, List.map_nil, hq]
  simp only [List.append_assoc]

theorem textB_cut (o : ByteArray) (sa sb : List ByteArray) (ha : sa ≠ []) (hb : sb ≠ []) :
    textB o (sa ++ sb) = textB o sa ++ ⟨#[44]⟩ ++ (textB o sb).extract (o.size + 1) (textB o sb).size := by
  apply ByteArray.ext
  apply Array.toList_inj.1
  rw [append_data, append_data, Lib.extract_data, textB_data o _ (by simp [ha]), textB_data o sa ha, List.map_append, join_append _ _ (map_ne sa ha) (map_ne sb hb)]
  have e : List.drop (o.size + 1) (textB o sb).data.toList = Lib.join (sb.map (·.data.toList)) [44] := by
    rw [textB_data o sb hb, ← List.append_assoc]
    rw [List.drop_left' (by simp)]
  rw [e, List.take_of_length_le (by rw [← e, List.length_drop, size_data]; omega)]
  simp only [List.append_assoc]

end Go.Proofs.Qxb6621708a

/-
  (Verdict).Text: the outcome; or the outcome, a space and the reasons parted by commas.
-/
import Derived.Test.Qxb6621708aReasons
import Derived.Lib.Join
import Derived.Deep.RegionWith
namespace Go.Proofs.Qxb6621708a
open Go.RowKit

/-- strings.Join's contract at this program's numbers. -/
def JoinSays : Prop := ∀ (bk o c : Nat) (xs : List ByteArray) (w : World)
    (_ : ∀ (j : Nat) x, xs[j]? = some x → w.cell? ⟨bk, o + j, none⟩ = some (.string x))
    (_ : bk < w.heap.size) (_ : xs.length ≤ 140737488355328) (_ : xs.length ≤ c)
    (_ : (Lib.join (xs.map (·.data.toList)) [44]).length ≤ 140737488355328),
    Calls Try.prog 14 #[.slice (some ⟨bk, o, none⟩) xs.length c, .string ⟨#[44]⟩] w fun e w' => e = .returned (.string ⟨(Lib.join (xs.map (·.data.toList)) [44]).toArray⟩) ∧ Below w.heap.size w w'

/-- What Text writes. -/
def txt (o : List UInt8) (xs : List (List UInt8)) : List UInt8 := if xs = [] then o else o ++ [32] ++ Lib.join xs [44]
def textB (o : ByteArray) (ss : List ByteArray) : ByteArray := ⟨(txt o.data.toList (ss.map (·.data.toList))).toArray⟩

theorem textB_nil (o : ByteArray) : textB o [] = o := by simp [textB, txt]

def Wrote (w : World) (s : ByteArray) (e : Ending) (w' : World) : Prop := e = .returned (.string s) ∧ Below w.heap.size w w'

set_option maxHeartbeats 400000 in
theorem text_none (id o : ByteArray) (r : Option Addr) (c : Nat) (w : World) :
    Calls Try.prog 8 #[.agg #[.string id, .string o, .slice r 0 c]] w (Wrote w (textB o [])) := by
  go_enter Try.func8, Try.ntmps8
  go_wp2
  go_ret
  exact ⟨by rw [textB_nil]; rfl, (Below.refl _ _).alloc (Nat.le_refl _) _⟩

theorem made_second (w : World) (o : Obj) (z : Value) (n : Nat) (t : TypeId) : ((w.alloc o).alloc (.cells (madeCells #[z] n) t)).rowIs (w.heap.size + 1) t n (fun _ => z) := by
  have h := World.rowIs_made (w.alloc o) z n t
  rw [World.size_alloc] at h
  exact h

theorem below_second (w : World) (o o2 : Obj) : Below (w.heap.size + 1) (w.alloc o) ((w.alloc o).alloc o2) := by
  have h := (Below.refl (w.alloc o).heap.size (w.alloc o)).alloc (Nat.le_refl _) o2
  rw [World.size_alloc] at h
  exact h

theorem old_cell (w wr : World) (o : Obj) (hb : Below (w.heap.size + 1) (w.alloc o) wr) (b off : Nat) (v : Value) (h : b < w.heap.size) (hc : w.cell? ⟨b, off, none⟩ = some v) : wr.cell? ⟨b, off, none⟩ = some v := by
  rw [hb.cell (by show b < _; omega), ((Below.refl w.heap.size w).alloc (Nat.le_refl _) o).cell (by exact h)]
  exact hc

theorem new_cell (w wr : World) (cs : Array Value) (t : TypeId) (hb : Below (w.heap.size + 1) (w.alloc (.cells cs t)) wr) (i : Nat) (v : Value) (hc : cs[i]? = some v) : wr.cell? ⟨w.heap.size, i, none⟩ = some v := by
  rw [hb.cell (by show w.heap.size < _; omega)]
  rw [World.cell?_alloc_at cs t w.heap.size i rfl]
  exact hc

theorem join_len (x : List UInt8) (r : List (List UInt8)) (n : Nat) (hl : (x :: r).length = n) : (Lib.join (x :: r) [44]).length ≤ n + Lib.lens (x :: r) := by
  rw [Lib.join_length]
  simp at hl ⊢
  omega

theorem lens_tot (ss : List ByteArray) : Lib.lens (ss.map (·.data.toList)) = tot ss := by
  simp only [Lib.lens, tot, List.map_map]
  congr 1

theorem append_data (a b : ByteArray) : (a ++ b).data.toList = a.data.toList ++ b.data.toList := by
  rw [ByteArray.data_append]; simp

theorem joined (hJ : JoinSays) (o : ByteArray) (ss : List ByteArray) (k : Nat) (hl : ss.length = k) (hk : 0 < k) (hk2 : k ≤ 4194304) (ht : tot ss ≤ 4194304) :
    ∃ J : ByteArray, (∀ (bk : Nat) (wx : World), (∀ (j : Nat) x, ss[j]? = some x → wx.cell? ⟨bk, 0 + j, none⟩ = some (.string x)) → bk < wx.heap.size → Calls Try.prog 14 #[.slice (some ⟨bk, 0, none⟩) k k, .string ⟨#[44]⟩] wx fun e w' => e = .returned (.string J) ∧ Below wx.heap.size wx w') ∧ J.size ≤ 8388608 ∧ o ++ ⟨#[32]⟩ ++ J = textB o ss := by
  have hlen : (Lib.join (ss.map (·.data.toList)) [44]).length ≤ 8388608 := by
    match ss, hl, ht with
    | [], hl, _ => simp at hl; omega
    | x :: r, hl, ht =>
      have h1 := lens_tot (x :: r)
      simp only [List.map_cons] at h1 ⊢
      have h2 := join_len x.data.toList (r.map (·.data.toList)) k (by simpa using hl)
      omega
  refine ⟨⟨(Lib.join (ss.map (·.data.toList)) [44]).toArray⟩, fun bk wx hc hb => ?_, ?_, ?_⟩
  · have := hJ bk 0 k ss wx hc hb (by omega) (by omega) (by omega)
    rw [hl] at this
    exact this
  · show (Lib.join (ss.map (·.data.toList)) [44]).toArray.size ≤ _
    simpa using hlen
  · have hne : ss.map (·.data.toList) ≠ [] := by
      intro e
      have := congrArg List.length e
      simp at this
      subst this
      simp at hl; omega
    apply ByteArray.ext
    apply Array.toList_inj.1
    rw [append_data, append_data, textB, txt, if_neg hne]

theorem text_below (w wr w1 : World) (o : Obj) (hb : Below (w.heap.size + 1) (w.alloc o) wr) (h1 : Below wr.heap.size wr.drew w1) : Below w.heap.size w w1 := by
  have hs := hb.size
  rw [World.size_alloc] at hs
  exact (((Below.refl _ w).alloc (Nat.le_refl _) o).trans (hb.mono (by omega))).drew.trans (h1.mono (by omega))

set_option maxHeartbeats 400000 in
theorem text_some (hJ : JoinSays) (id o : ByteArray) (r : Option Addr) (n c : Nat) (ss : List ByteArray) (w : World) (hn : 0 < n) (hn2 : n ≤ 4194304) (ho : o.size ≤ 4194304) (htot : tot ss ≤ 4194304)
    (hs : Hid (Strs w r n ss)) :
    Calls Try.prog 8 #[.agg #[.string id, .string o, .slice r n c]] w (Wrote w (textB o ss)) := by
  have hmk := run_make_row' (P := Try.prog) 22 9 (.string ByteArray.empty) 16 Try.underlying22 Try.info9 rfl .i64 .i64 n (by omega) (by omega)
  have hn0 : ((n : Int) == 0) = false := beq_eq_false_iff_ne.2 (by omega)
  have HLn : Hid (ss.length = n) := hs.out.1
  go_enter Try.func8, Try.ntmps8
  go_wp2
  go_loopw [19] (fun i wr => ∃ (k : Nat) (f : Nat → Value), k ≤ n ∧ i = .int .i64 k ∧ Hid (wr.rowIs (w.heap.size + 1) 9 n f) ∧ Hid (∀ i x, i < k → ss[i]? = some x → f i = .string x) ∧ Hid (Below (w.heap.size + 1) (w.alloc (.cells #[.string id, .string o, .slice r n c] 29)) wr)) (fun i _ => n - (intOf i).toNat)
  case atStart =>
    exact ⟨0, _, Nat.zero_le _, rfl, made_second _ _ _ _ _, fun i x h => by omega, below_second _ _ _⟩
  case round =>
    obtain ⟨k, f, hk, rfl, hrow, hf, hbel⟩ := hrel
    by_cases hlt : k < n
    · obtain ⟨b, off, x, rfl, hb, hcell, hgx, _, _, _⟩ := hs.out.at hlt
      have hcell2 : wr.cell? ⟨b, off + k, none⟩ = some (.string x) := old_cell _ _ _ hbel.out _ _ _ hb hcell
      have hc1 : wr.cell? ⟨w.heap.size + 1, k, none⟩ = some (f k) := hrow.out.cell (by omega)
      have hc2 : wr.frozen? ⟨w.heap.size + 1, k, none⟩ = false := hrow.out.frozen k
      have HX : Hid (ss[k]? = some x) := hgx
      clear hgx hcell
      go_wp2
      go_roundw
      case rel =>
        exact ⟨k + 1, _, by omega, by go_num, hrow.out.set k (.string x), fun i y hi hy => by
          by_cases e : i = k
          · subst e; rw [if_pos rfl, Option.some.inj (HX.out.symm.trans hy)]
          · rw [if_neg e]; exact hf.out i y (by omega) hy, hbel.out.setCell (Nat.le_refl _) _⟩
      case measure => simp [intOf]; omega
    · obtain rfl : k = n := by omega
      have hbox : wr.cell? ⟨w.heap.size, 1, none⟩ = some (.string o) := new_cell _ _ _ _ hbel.out 1 _ rfl
      have HC : Hid (∀ (j : Nat) x, ss[j]? = some x → wr.cell? ⟨w.heap.size + 1, 0 + j, none⟩ = some (.string x)) := fun j x hx => by
        have := getElem?_of_lt ss j x hx
        rw [HLn.out] at this
        rw [Nat.zero_add, hrow.out.cell this, hf.out j x this hx]
      have hlt2 : w.heap.size + 1 < wr.heap.size := hrow.out.lt
      obtain ⟨J, hJ1, hJ2, hJ3⟩ := joined hJ o ss k HLn.out hn hn2 htot
      have HJ : Hid (o ++ ⟨#[32]⟩ ++ J = textB o ss) := hJ3
      have HJ1 : Hid (∀ (bk : Nat) (wx : World), (∀ (j : Nat) x, ss[j]? = some x → wx.cell? ⟨bk, 0 + j, none⟩ = some (.string x)) → bk < wx.heap.size → Calls Try.prog 14 #[.slice (some ⟨bk, 0, none⟩) k k, .string ⟨#[44]⟩] wx fun e w' => e = .returned (.string J) ∧ Below wx.heap.size wx w') := hJ1
      clear hJ3 hJ1
      go_wp2
      go_region_with (go_at_call 14; refine (HJ1.out _ _ ?_ ?_).mono ?_; exact HC.out; exact hlt2; rintro e w1 ⟨rfl, hb1⟩; have hbox1 : w1.cell? ⟨w.heap.size, 1, none⟩ = some (.string o) := (hb1.cell (by show w.heap.size < wr.heap.size; omega)).trans hbox)
      all_goals go_wp2
      all_goals go_ret
      all_goals exact ⟨by rw [← HJ.out]; rfl, text_below _ _ _ _ hbel.out hb1⟩

/-- (Verdict).Text, whatever the verdict. -/
theorem text_any (hJ : JoinSays) (id o : ByteArray) (r : Option Addr) (n c : Nat) (ss : List ByteArray) (w : World) (hn2 : n ≤ 4194304) (ho : o.size ≤ 4194304) (htot : tot ss ≤ 4194304) (hs : Hid (Strs w r n ss)) :
    Calls Try.prog 8 #[.agg #[.string id, .string o, .slice r n c]] w (Wrote w (textB o ss)) := by
  rcases Nat.eq_zero_or_pos n with h0 | h0
  · subst h0
    have : ss = [] := List.eq_nil_of_length_eq_zero hs.out.1
    subst this
    exact text_none id o r c w
  · exact text_some hJ id o r n c ss w h0 hn2 ho htot hs

end Go.Proofs.Qxb6621708a

/-
  BYTES IN MEMORY, AND THE FUNCTIONS THAT ONLY READ OR COPY THEM.
-/
import Derived.Test.Qxb6617351aRows
import Derived.WalkKit
import Derived.WalkSpells
import Derived.WalkLawsBesides
import Derived.Deep.QuietTactic
import Derived.BigQuiet
import Derived.Deep.OwnRows
import Derived.Lib.SliceRun
import Derived.Lib.VarintMem
import Derived.Maps.AppendAt
namespace Go.Proofs.Qxb6617351a
open Go.RowKit

theorem Try.info5 : (Try.prog.info? 5).map (fun i => (i.zero, i.size, i.bytes)) = some (some (.int .u8 0), 1, 1) := by kernel_rfl

/-- What a walk is told of a slice of bytes that it reads: its elements. -/
def Bytes (w : World) (a : Option Addr) (len : Nat) (zs : List UInt8) : Prop :=
  zs.length = len ∧ (0 < len → ∃ b off, a = some ⟨b, off, none⟩ ∧ b < w.heap.size ∧ ∀ k x, zs[k]? = some x → w.cell? ⟨b, off + k, none⟩ = some (.int .u8 x.toNat))

theorem lt_of_get {zs : List UInt8} {k : Nat} {x : UInt8} (h : zs[k]? = some x) : k < zs.length := by
  rcases Nat.lt_or_ge k zs.length with h1 | h1
  · exact h1
  · rw [List.getElem?_eq_none h1] at h; cases h

theorem Bytes.at {w : World} {a : Option Addr} {len : Nat} {zs : List UInt8} (h : Bytes w a len zs) {k : Nat} (hk : k < len) :
    ∃ b off x, a = some ⟨b, off, none⟩ ∧ b < w.heap.size ∧ w.cell? ⟨b, off + k, none⟩ = some (.int .u8 (x.toNat : Int)) ∧ zs[k]? = some x ∧ x.toNat < 256 := by
  obtain ⟨hl, hc⟩ := h
  obtain ⟨b, off, ha, hb, hcc⟩ := hc (by omega)
  have hg : zs[k]? = some (zs[k]'(by omega)) := List.getElem?_eq_getElem (by omega)
  exact ⟨b, off, _, ha, hb, hcc k _ hg, hg, UInt8.toNat_lt _⟩

theorem Bytes.empty (w : World) (a : Option Addr) : Bytes w a 0 [] := ⟨rfl, fun h => by omega⟩

theorem Bytes.below {w w' : World} {a : Option Addr} {len : Nat} {zs : List UInt8} (h : Bytes w a len zs) (hb : Below w.heap.size w w') : Bytes w' a len zs := by
  obtain ⟨h1, h2⟩ := h
  refine ⟨h1, fun h0 => ?_⟩
  obtain ⟨b, o, ha, hlt, hc⟩ := h2 h0
  have hsz := hb.size
  exact ⟨b, o, ha, by omega, fun k x hx => by rw [hb.cell (by exact hlt)]; exact hc k x hx⟩

theorem Bytes.drewN {w : World} {a : Option Addr} {len : Nat} {zs : List UInt8} (h : Bytes w a len zs) (n : Nat) : Bytes (w.drewN n) a len zs := h

/-- A call that answers a bool and turns nothing. -/
def Answers (w : World) (p : Bool → Prop) (e : Ending) (w' : World) : Prop := ∃ c, e = .returned (.bool c) ∧ w' = w ∧ p c

/-- 'yes' says that n is within the bound. -/
def Fits (n : Nat) (c : Bool) : Prop := c = true → n ≤ 1048576

set_option maxHeartbeats 400000 in
theorem bytes5 (a0 : Option Addr) (l0 c0 : Nat) (x1 : Int) (a2 : Option Addr) (l2 c2 : Nat) (x3 : Int) (a4 : Option Addr) (l4 c4 : Nat) (w : World) (h0 : l0 ≤ 9223372036854775807) (h2 : l2 ≤ 9223372036854775807) (h4 : l4 ≤ 9223372036854775807) :
    Calls Try.prog 5 #[.slice a0 l0 c0, .int .u64 x1, .slice a2 l2 c2, .int .u64 x3, .slice a4 l4 c4] w (Answers w (Fits (l0 + l2 + l4))) := by
  go_enter Try.func5, Try.ntmps5
  go_wp2
  all_goals go_ret
  all_goals first
    | exact ⟨false, rfl, rfl, fun h => by cases h⟩
    | exact ⟨true, rfl, rfl, fun _ => by omega⟩

set_option maxHeartbeats 400000 in
theorem bytes10 (a0 : Option Addr) (l0 c0 : Nat) (x1 : Int) (a2 : Option Addr) (l2 c2 : Nat) (w : World) (h0 : l0 ≤ 9223372036854775807) (h2 : l2 ≤ 9223372036854775807) :
    Calls Try.prog 10 #[.slice a0 l0 c0, .int .u64 x1, .slice a2 l2 c2] w (Answers w (Fits (l0 + l2))) := by
  go_enter Try.func10, Try.ntmps10
  go_wp2
  all_goals go_ret
  all_goals first
    | exact ⟨false, rfl, rfl, fun h => by cases h⟩
    | exact ⟨true, rfl, rfl, fun _ => by omega⟩

/-- A copy: a row of the call's own (or nil); nothing that was there has turned. -/
def Cloned (w : World) (B : Nat) (zs : List UInt8) (e : Ending) (w' : World) : Prop :=
  ∃ v, e = .returned v ∧ w'.ownsRow B 5 1 v zs.length (Lib.byteCells zs) ∧ Below w.heap.size w w' ∧ (v.ownBlock = none ∨ v.ownBlock = some w.heap.size)

theorem byteCells_get (zs : List UInt8) (k : Nat) : (Lib.byteCells zs)[k]? = (zs[k]?).map (fun x => Value.int .u8 (x.toNat : Int)) := by
  simp [Lib.byteCells]

theorem owns_of_row {w : World} {g B n : Nat} {f : Nat → Value} {zs : List UInt8} (h : w.rowIs g 5 n f) (hB : B ≤ g) (hm : n ≤ maxLen) (hl : zs.length = n) (hf : ∀ i x, zs[i]? = some x → f i = .int .u8 x.toNat) :
    w.ownsRow B 5 1 (.slice (some ⟨g, 0, none⟩) n n) n (Lib.byteCells zs) := by
  obtain ⟨c, h1, h2, h3⟩ := h
  refine ⟨by simp [Lib.byteCells, hl], .inr ⟨g, n, c, rfl, hB, h1, Nat.le_refl _, hm, by omega, ?_⟩⟩
  apply List.ext_getElem?
  intro i
  rw [byteCells_get, Nat.mul_one]
  by_cases hi : i < n
  · rw [List.getElem?_take_of_lt hi, Array.getElem?_toList, h3 i hi, List.getElem?_eq_getElem (by omega)]
    rw [hf i (zs[i]'(by omega)) (List.getElem?_eq_getElem (by omega))]
    rfl
  · rw [List.getElem?_eq_none (by rw [List.length_take]; omega), List.getElem?_eq_none (by omega)]
    rfl

/-- What is owned is read. -/
theorem bytes_of_owns {w : World} {B : Nat} {v : Value} {n : Nat} {zs : List UInt8} (h : w.ownsRow B 5 1 v n (Lib.byteCells zs)) : ∃ a cap, v = .slice a n cap ∧ Bytes w a n zs ∧ n ≤ cap ∧ zs.length = n ∧ cap ≤ maxLen ∧ (a = none → n = 0 ∧ cap = 0) ∧ (∀ ad, a = some ad → v.ownBlock = some ad.block ∧ ad.off = 0 ∧ ad.spot = none) := by
  have hlen : zs.length = n := by have := h.1; simpa [Lib.byteCells] using this
  rcases h.2 with ⟨hv, hn⟩ | ⟨g, cap, cur, hv, hB, hh, h1, h2, h3, h4⟩
  · subst hn
    exact ⟨none, 0, hv, ⟨hlen, fun h => by omega⟩, Nat.le_refl _, hlen, Nat.zero_le _, fun _ => ⟨rfl, rfl⟩, fun ad e => by cases e⟩
  · subst hv
    refine ⟨some ⟨g, 0, none⟩, cap, rfl, ⟨hlen, fun _ => ⟨g, 0, rfl, ?_, fun k x hx => ?_⟩⟩, h1, hlen, h2, (fun e => by cases e), (fun ad e => by cases e; exact ⟨rfl, rfl, rfl⟩)⟩
    · rcases Nat.lt_or_ge g w.heap.size with h5 | h5
      · exact h5
      · rw [Array.getElem?_eq_none h5] at hh; cases hh
    · have hk := lt_of_get hx
      rw [Nat.zero_add, h.cellAt k (by omega), byteCells_get, hx]
      rfl

set_option maxHeartbeats 400000 in
theorem clone_any (a : Option Addr) (len cap : Nat) (zs : List UInt8) (B : Nat) (w : World) (hB : B ≤ w.heap.size) (hl : len ≤ 4194304) (hz : Hid (Bytes w a len zs)) :
    Calls Try.prog 6 #[.slice a len cap] w (Cloned w B zs) := by
  have heq := fun (wx : World) (x : Option Addr) (l c : Nat) => Lib.run_eql_slice_nil (P := Try.prog) wx 22 5 x l c 0 0 Try.underlying22
  have hmk := run_make_row' (P := Try.prog) 22 5 (.int .u8 0) 1 Try.underlying22 Try.info5 rfl .i64 .i64 len (by omega) (by omega)
  have HL : Hid (zs.length = len) := hz.out.1
  cases a with
  | none =>
    have HN : Hid (zs = []) := by
      rcases Nat.eq_zero_or_pos len with h0 | h0
      · exact List.eq_nil_of_length_eq_zero (by rw [HL.out]; exact h0)
      · obtain ⟨_, _, he, _⟩ := hz.out.2 h0; cases he
    go_enter Try.func6, Try.ntmps6
    go_wp2
    go_ret
    refine ⟨_, rfl, ?_, Below.refl _ _, .inl rfl⟩
    rw [HN.out]
    exact World.ownsRow_nil _ _ _ _
  | some ad =>
    go_enter Try.func6, Try.ntmps6
    go_wp2
    go_loopw [4] (fun i wr => ∃ (k : Nat) (f : Nat → Value), k ≤ len ∧ i = .int .i64 k ∧ Hid (wr.rowIs w.heap.size 5 len f) ∧ Hid (∀ i x, i < k → zs[i]? = some x → f i = .int .u8 x.toNat) ∧ Hid (Below w.heap.size w wr)) (fun i _ => len - (intOf i).toNat)
    case atStart => exact ⟨0, _, Nat.zero_le _, rfl, World.rowIs_made _ _ _ _, fun i x h => by omega, (Below.refl _ _).alloc (Nat.le_refl _) _⟩
    case round =>
      obtain ⟨k, f, hk, rfl, hrow, hf, hbel⟩ := hrel
      by_cases hlt : k < len
      · obtain ⟨b, off, x, hA, hb, hcell, hgx, hx256⟩ := hz.out.at hlt
        obtain rfl : ad = ⟨b, off, none⟩ := Option.some.inj hA
        have hcell2 : wr.cell? ⟨b, off + k, none⟩ = some (.int .u8 (x.toNat : Int)) := by rw [hbel.out.cell (by exact hb)]; exact hcell
        have hc1 : wr.cell? ⟨w.heap.size, k, none⟩ = some (f k) := hrow.out.cell (by omega)
        have hc2 : wr.frozen? ⟨w.heap.size, k, none⟩ = false := hrow.out.frozen k
        have HX : Hid (zs[k]? = some x) := hgx
        clear hgx hcell hA
        go_wp2
        go_roundw
        case rel =>
          exact ⟨k + 1, _, by omega, by go_num, hrow.out.set k (.int .u8 (x.toNat : Int)), fun i y hi hy => by
            by_cases e : i = k
            · subst e; rw [if_pos rfl, Option.some.inj (HX.out.symm.trans hy)]
            · rw [if_neg e]; exact hf.out i y (by omega) hy, hbel.out.setCell (Nat.le_refl _) _⟩
        case measure => simp [intOf]; omega
      · obtain rfl : k = len := by omega
        go_wp2
        go_ret
        refine ⟨_, rfl, ?_, hbel.out, .inr rfl⟩
        rw [HL.out]
        exact owns_of_row hrow.out hB (by unfold maxLen; omega) HL.out (fun i x hx => hf.out i x (by have := lt_of_get hx; rw [HL.out] at this; exact this) hx)

set_option maxHeartbeats 400000 in
theorem equal_yes (a : Option Addr) (len ca : Nat) (b : Option Addr) (cb : Nat) (zs : List UInt8) (w : World) (hl : len ≤ 16777216) (ha : Hid (Bytes w a len zs)) (hb : Hid (Bytes w b len zs)) :
    Calls Try.prog 11 #[.slice a len ca, .slice b len cb] w fun e w' => e = .returned (.bool true) ∧ ∃ n, w' = w.drewN n := by
  go_enter Try.func11, Try.ntmps11
  go_wp2
  go_loopw [5] (fun i wr => ∃ k n : Nat, k ≤ len ∧ i = .int .i64 k ∧ wr = w.drewN n) (fun i _ => len - (intOf i).toNat)
  case atStart => exact ⟨0, 0, Nat.zero_le _, rfl, rfl⟩
  case round =>
    obtain ⟨k, n, hk, rfl, rfl⟩ := hrel
    by_cases hlt : k < len
    · obtain ⟨ba, oa, x, rfl, _, hcx, hgx, _⟩ := ha.out.at hlt
      obtain ⟨bb, ob, y, rfl, _, hcy, hgy, _⟩ := hb.out.at hlt
      obtain rfl : x = y := Option.some.inj (hgx.symm.trans hgy)
      have i1 : (k : Int) < (len : Int) := by omega
      clear hgx hgy
      go_wp2
      go_quiet (fail)
      go_wp2
      go_roundw
      case rel => exact ⟨k + 1, n + nq, by omega, by go_num, rfl⟩
      case measure => simp [intOf]; omega
    · go_wp2
      go_ret
      exact ⟨rfl, n, rfl⟩

theorem Bytes.head {w : World} {a : Option Addr} {len : Nat} {pre rest : List UInt8} (h : Bytes w a len (pre ++ rest)) : Bytes w a pre.length pre := by
  obtain ⟨h1, h2⟩ := h
  rw [List.length_append] at h1
  refine ⟨rfl, fun h0 => ?_⟩
  obtain ⟨b, o, ha, hlt, hc⟩ := h2 (by omega)
  exact ⟨b, o, ha, hlt, fun k x hx => hc k x (by rw [List.getElem?_append_left (lt_of_get hx)]; exact hx)⟩

set_option maxHeartbeats 400000 in
theorem prefix_yes (a : Option Addr) (la ca : Nat) (b : Option Addr) (lb cb : Nat) (pre rest : List UInt8) (w : World) (hl : la ≤ 16777216) (hca : la ≤ ca) (ha : Hid (Bytes w a la (pre ++ rest))) (hb : Hid (Bytes w b lb pre)) :
    Calls Try.prog 8 #[.slice a la ca, .slice b lb cb] w fun e w' => e = .returned (.bool true) ∧ ∃ n, w' = w.drewN n := by
  have hlb : lb ≤ la := by have h1 := ha.out.1; have h2 := hb.out.1; rw [List.length_append] at h1; omega
  go_enter Try.func8, Try.ntmps8
  go_wp2_with fail
  refine (equal_yes a lb ca b cb pre w (by omega) (by rw [← hb.out.1]; exact ha.out.head) hb).mono ?_
  rintro e w1 ⟨rfl, n, rfl⟩
  go_wp2_with fail
  go_ret
  exact ⟨rfl, n, rfl⟩

end Go.Proofs.Qxb6617351a

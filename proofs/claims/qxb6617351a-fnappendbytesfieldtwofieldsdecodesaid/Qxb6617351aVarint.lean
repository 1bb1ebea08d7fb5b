/-
  varint.Append and the length-delimited field: what is written behind a slice of the call's own.
-/
import Derived.Test.Qxb6617351aBytes
import Derived.Lib.VarintDec
import Derived.Lib.VarintBits
import Derived.Laws.Closers25b
import Derived.Laws.AppendOwnNone
namespace Go.Proofs.Qxb6617351a
open Go.RowKit
open Go.WideShapes (add_plain)

/-- From w, in which sv stood, to w', in which v' stands behind it: no old block but sv's own has turned; v' lies in sv's block or in a new one. -/
def Added (w : World) (sv : Value) (w' : World) (v' : Value) : Prop :=
  w.grownBy w' sv.ownBlock ∧ (v'.ownBlock = sv.ownBlock ∨ ∃ g, v'.ownBlock = some g ∧ w.heap.size ≤ g)

theorem Added.refl (w : World) (sv : Value) : Added w sv w sv := ⟨⟨rfl, rfl, rfl, Nat.le_refl _, fun _ _ _ => rfl⟩, .inl rfl⟩

theorem Added.trans {w w1 w2 : World} {v0 v1 v2 : Value} (h : Added w v0 w1 v1) (k : Added w1 v1 w2 v2) : Added w v0 w2 v2 := by
  obtain ⟨h1, h2⟩ := h
  obtain ⟨k1, k2⟩ := k
  have hsz := h1.size
  refine ⟨⟨k1.os.trans h1.os, k1.tape.trans h1.tape, k1.output.trans h1.output, Nat.le_trans h1.size k1.size, fun i hi hne => (k1.block i (by omega) ?_).trans (h1.block i hi hne)⟩, ?_⟩
  · rcases h2 with h2 | ⟨g, h2, hg⟩
    · rw [h2]; exact hne
    · rw [h2]; intro e; have := Option.some.inj e; omega
  · rcases k2 with k2 | ⟨g, k2, hg⟩
    · rcases h2 with h2 | ⟨g, h2, hg⟩
      · exact .inl (k2.trans h2)
      · exact .inr ⟨g, k2.trans h2, hg⟩
    · exact .inr ⟨g, k2, by omega⟩

theorem Added.alloc (w : World) (v : Value) (O : Obj) : Added w v (w.alloc O) v := ⟨World.grownBy_alloc w O _, .inl rfl⟩

/-- One append: a new block for what is appended, then the append itself. -/
theorem Added.one {w w1 w2 : World} {v0 v1 v2 : Value} (h : Added w v0 w1 v1) (O : Obj) (g : (w1.alloc O).grownBy w2 v1.ownBlock) (h2 : v2.ownBlock = v1.ownBlock ∨ v2.ownBlock = some (w1.heap.size + 1)) : Added w v0 w2 v2 := by
  refine (h.trans (Added.alloc w1 v1 O)).trans ⟨g, ?_⟩
  rcases h2 with h2 | h2
  · exact .inl h2
  · exact .inr ⟨_, h2, by rw [World.size_alloc]; omega⟩

theorem Added.bare {w w1 : World} {v0 v1 : Value} (g : w.grownBy w1 v0.ownBlock) (h2 : v1.ownBlock = v0.ownBlock ∨ v1.ownBlock = some w.heap.size) : Added w v0 w1 v1 := by
  refine ⟨g, ?_⟩
  rcases h2 with h2 | h2
  · exact .inl h2
  · exact .inr ⟨_, h2, Nat.le_refl _⟩

theorem Added.below {w w' : World} {v v' : Value} {B : Nat} (h : Added w v w' v') (hB : B ≤ w.heap.size) (hv : ∀ g, v.ownBlock = some g → B ≤ g) : Below B w w' := by
  obtain ⟨h1, _⟩ := h
  exact ⟨h1.os, h1.tape, h1.output, h1.size, fun k hk => h1.block k (by omega) (fun e => by have := hv k e.symm; omega)⟩

theorem Bytes.added {w w' : World} {a : Option Addr} {len : Nat} {zs : List UInt8} {sv v' : Value} (h : Bytes w a len zs) (hb : Added w sv w' v') (hne : ∀ ad, a = some ad → sv.ownBlock ≠ some ad.block) : Bytes w' a len zs := by
  obtain ⟨h1, h2⟩ := h
  refine ⟨h1, fun h0 => ?_⟩
  obtain ⟨b, o, ha, hlt, hc⟩ := h2 h0
  have hsz := hb.1.size
  refine ⟨b, o, ha, by omega, fun k x hx => hb.1.cell (hc k x hx) (fun e => hne _ ha e.symm)⟩

/-- What stands behind an append: the cells, and where they lie. -/
def Grown (w : World) (B : Nat) (sv : Value) (n : Nat) (xs : List Value) (l : List UInt8) (e : Ending) (w' : World) : Prop :=
  ∃ v', e = .returned v' ∧ w'.ownsRow B 5 1 v' (n + l.length) (xs ++ Lib.byteCells l) ∧ Added w sv w' v'

set_option maxHeartbeats 1000000 in
set_option maxRecDepth 100000 in
theorem append_any (B n x : Nat) (hx : x < 18446744073709551616) (sv : Value) (xs : List Value) (w : World) (hown : w.ownsRow B 5 1 sv n xs) (hBw : B ≤ w.heap.size) (hlim : n + 10 ≤ 140737488355328) :
    Calls Try.prog 15 #[sv, .int .u64 x] w (Grown w B sv n xs (Lib.uvarint x)) := by
  obtain ⟨i0, hi, hz0, hz1, hz2⟩ := info_parts Try.info5
  have hlen := Lib.uvarint_length64 hx
  go_enter Try.func15, Try.ntmps15
  go_wp2
  go_loopw [0, 1] (fun vb vx wr => ∃ (y : Nat) (pre : List UInt8), vx = .int .u64 y ∧ y ≤ x ∧ Hid (Lib.uvarint x = pre ++ Lib.uvarint y) ∧ wr.ownsRow B 5 1 vb (n + pre.length) (xs ++ Lib.byteCells pre) ∧ Added w sv wr vb)
    (fun _ vx _ => (intOf vx).toNat)
  case atStart => exact ⟨x, [], rfl, Nat.le_refl _, rfl, by simpa [Lib.byteCells] using hown, Added.refl _ _⟩
  case round =>
    obtain ⟨y, pre, rfl, hy, hsplit, hown1, hnx⟩ := hrel
    have hpl : pre.length + (Lib.uvarint y).length ≤ 10 := by
      have h2 := congrArg List.length hsplit.out
      rw [List.length_append] at h2
      omega
    have hyp := Lib.uvarint_pos y
    have hsz : B ≤ wr.heap.size := Nat.le_trans hBw hnx.1.size
    by_cases h128 : 128 ≤ y
    · have hor : bits .or .u8 ((y : Int) % 256) 128 = ((y % 128 + 128 : Nat) : Int) := by
        rw [Lib.u8_or128_any _ (by omega) (by omega)]
        omega
      go_wp2_with (at_builtin; refine wpList_append_own_at _ rfl _ _ 22 rfl B 5 i0 (.int .u8 0) 1 1 Try.underlying22 hi hz0 hz1 hz2 rfl (by decide) _ _ _ rfl (hown1.alloc _) ⟨wr.heap.size, 0, none⟩ 1 1 [Value.int .u8 ((y % 128 + 128 : Nat) : Int)] rfl rfl ?c1 ?c2 ?c3 ?c4 ?c5 ?_)
      case c1 =>
        intro j u hj
        match j, hj with
        | 0, hj => simp at hj; subst hj; simp [Addr.add]
      case c2 => intro u hu; simp at hu; subst hu; rfl
      case c3 => unfold maxLen; omega
      case c4 => omega
      case c5 => simp; omega
      intro v' w1 hown' hgrow _ hat
      have hnx1 : Added w sv w1 v' := hnx.one _ hgrow hat
      clear hgrow hat
      go_wp2
      go_roundw
      case rel =>
        refine ⟨y / 128, pre ++ [(y % 128 + 128).toUInt8], by go_num, by omega, by show Lib.uvarint x = _; rw [hsplit.out, Lib.uvarint_big h128]; simp, ?_, hnx1⟩
        have ec : ((y % 128 + 128 : Nat) : Int) = (y : Int) % 128 + 128 := by omega
        rw [Lib.byteCells_snoc pre (by omega), List.length_append, List.length_singleton, ← Nat.add_assoc, ec]
        exact hown'
      case measure => simp [intOf]; omega
    · have hsm : Lib.uvarint y = [y.toUInt8] := Lib.uvarint_small (by omega)
      go_wp2_with (at_builtin; refine wpList_append_own_at _ rfl _ _ 22 rfl B 5 i0 (.int .u8 0) 1 1 Try.underlying22 hi hz0 hz1 hz2 rfl (by decide) _ _ _ rfl (hown1.alloc _) ⟨wr.heap.size, 0, none⟩ 1 1 [Value.int .u8 (y : Int)] rfl rfl ?c1 ?c2 ?c3 ?c4 ?c5 ?_)
      case c1 =>
        intro j u hj
        match j, hj with
        | 0, hj => simp at hj; subst hj; simp [Addr.add]
      case c2 => intro u hu; simp at hu; subst hu; rfl
      case c3 => unfold maxLen; omega
      case c4 => omega
      case c5 => simp; omega
      intro v' w1 hown' hgrow _ hat
      have hnx1 : Added w sv w1 v' := hnx.one _ hgrow hat
      go_wp2
      go_ret
      refine ⟨v', rfl, ?_, hnx1⟩
      rw [hsplit.out, hsm, Lib.byteCells_snoc pre (by omega), List.length_append, List.length_singleton, ← Nat.add_assoc]
      exact hown'

/-- The key of a field: its number's low 61 bits, wire type 2. -/
def keyOf (num : Nat) : Nat := num % 2305843009213693952 * 8 + 2

theorem keyOf_lt (num : Nat) : keyOf num < 18446744073709551616 := by unfold keyOf; omega

theorem wrap_u64_mod (x : Int) : IntKind.u64.wrap x = x % 18446744073709551616 := by simp [IntKind.wrap, IntKind.bits, IntKind.signed]

theorem key_eq (num : Nat) : bits .or .u64 (IntKind.u64.wrap ((num : Int) * 8)) 2 = (keyOf num : Int) := by
  have h1 : IntKind.u64.wrap ((num : Int) * 8) = ((num % 2305843009213693952 * 8 : Nat) : Int) := by
    rw [wrap_u64_mod]; omega
  rw [h1]
  have h2 := bits_or_u64_nat (num % 2305843009213693952 * 8) 2 (by omega) (by omega)
  have e : ((2 : Nat) : Int) = 2 := rfl
  rw [e] at h2
  rw [h2]
  have h3 := Nat.shiftLeft_add_eq_or_of_lt (b := 2) (i := 3) (by decide) (num % 2305843009213693952)
  rw [Nat.shiftLeft_eq] at h3
  have h4 : num % 2305843009213693952 * 8 ||| 2 = num % 2305843009213693952 * 8 + 2 := h3.symm
  rw [h4]
  rfl

/-- The field's bytes. -/
def field (num : Nat) (zs : List UInt8) : List UInt8 := Lib.uvarint (keyOf num) ++ (Lib.uvarint zs.length ++ zs)

theorem bytes_one (l : List UInt8) : ∀ v ∈ Lib.byteCells l, v.oneCell' = true := by
  intro v hv
  obtain ⟨x, _, rfl⟩ := List.mem_map.1 hv
  rfl

set_option maxHeartbeats 1000000 in
set_option maxRecDepth 100000 in
theorem field_any (B n num : Nat) (sv : Value) (xs : List Value) (b : Option Addr) (lb cb : Nat) (zs : List UInt8) (w : World) (hown : w.ownsRow B 5 1 sv n xs) (hBw : B ≤ w.heap.size) (hn : n ≤ 16777216) (hlb : lb ≤ 16777216)
    (hb : Hid (Bytes w b lb zs)) (hnil : Hid (b = none → lb = 0 ∧ cb = 0)) (hne : Hid (∀ ad, b = some ad → sv.ownBlock ≠ some ad.block)) :
    Calls Try.prog 13 #[sv, .int .u64 num, .slice b lb cb] w (Grown w B sv n xs (field num zs)) := by
  obtain ⟨i0, hi, hz0, hz1, hz2⟩ := info_parts Try.info5
  have hkey := key_eq num
  have hk64 := keyOf_lt num
  obtain ⟨K, HK⟩ : ∃ K, Hid (keyOf num = K) := ⟨_, rfl⟩
  rw [HK.out] at hkey hk64
  have hlK := Lib.uvarint_length64 hk64
  have hlL := Lib.uvarint_length64 (x := lb) (by omega)
  have HL : Hid (zs.length = lb) := hb.out.1
  go_enter Try.func13, Try.ntmps13
  go_wp2_with fail
  refine (append_any B n K hk64 sv xs w hown hBw (by omega)).mono ?_
  rintro e w1 ⟨v1, rfl, hown1, hadd1⟩
  have hs1 := hadd1.1.size
  go_wp2_with fail
  refine (append_any B _ lb (by omega) v1 _ _ hown1 (by omega) (by omega)).mono ?_
  rintro e w2 ⟨v2, rfl, hown2, hadd2⟩
  have hs2 := hadd2.1.size
  have hadd := hadd1.trans hadd2
  have hb2 : Hid (Bytes w2 b lb zs) := hb.out.added hadd hne.out
  clear hadd1 hadd2 hown1
  cases b with
  | none =>
    obtain ⟨rfl, rfl⟩ := hnil.out rfl
    have HZ : Hid (zs = []) := List.eq_nil_of_length_eq_zero HL.out
    go_wp2_with (at_builtin; refine wpList_append_own_none rfl _ _ 22 rfl B 5 i0 1 Try.underlying22 hi v2 _ _ rfl hown2 rfl ?_)
    go_ret
    refine ⟨v2, rfl, ?_, hadd⟩
    rw [field, HK.out, HZ.out]
    simpa [Lib.byteCells_append, Nat.add_assoc] using hown2
  | some ad =>
    have hnews : Hid (∀ j u, (Lib.byteCells zs)[j]? = some u → w2.cell? (ad.add j) = some u) := by
      intro j u hj
      rw [byteCells_get] at hj
      obtain ⟨x, hx, rfl⟩ := Option.map_eq_some_iff.1 hj
      have hlt := lt_of_get hx
      obtain ⟨bb, off, hA, _, hc⟩ := hb2.out.2 (by rw [← HL.out]; omega)
      obtain rfl := Option.some.inj hA
      rw [add_plain]
      exact hc j x hx
    have hbl : Hid ((Lib.byteCells zs).length = lb * 1) := by show _ = _; rw [Lib.byteCells_length, HL.out]; omega
    go_wp2_with (at_builtin; refine wpList_append_own_at _ rfl _ _ 22 rfl B 5 i0 (.int .u8 0) 1 1 Try.underlying22 hi hz0 hz1 hz2 rfl (by decide) v2 _ _ rfl hown2 ad lb cb (Lib.byteCells zs) rfl hbl.out hnews.out (bytes_one zs) ?c3 ?c4 ?c5 ?_)
    case c3 => unfold maxLen; omega
    case c4 => omega
    case c5 => omega
    intro v3 w3 hown3 hgrow _ hat
    have hadd3 := hadd.trans (Added.bare hgrow hat)
    go_wp2
    go_ret
    refine ⟨v3, rfl, ?_, hadd3⟩
    rw [field, HK.out, HL.out]
    simpa [Lib.byteCells_append, Nat.add_assoc, HL.out] using hown3

end Go.Proofs.Qxb6617351a

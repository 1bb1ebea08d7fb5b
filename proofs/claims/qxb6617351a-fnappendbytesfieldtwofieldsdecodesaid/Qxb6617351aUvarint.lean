/-
  zzReadUvarintDagpbB1 on a varint in its shortest form: the number, where it ends, yes.
-/
import Derived.Test.Qxb6617351aPrefix
namespace Go.Proofs.Qxb6617351a
open Go.RowKit

theorem uv_small {y : Nat} (h : y < 128) : Lib.uvarint y = [y.toUInt8] := Lib.uvarint_small h

/-- The byte that the reader meets, and what stands behind it. -/
theorem byte_small {w : World} {a : Option Addr} {len j y : Nat} {zs rest : List UInt8} (hz : Bytes w a len zs) (hd : zs.drop j = Lib.uvarint y ++ rest) (hy : y < 128) :
    ∃ b off, a = some ⟨b, off, none⟩ ∧ w.cell? ⟨b, off + j, none⟩ = some (.int .u8 (y : Int)) ∧ j < len := by
  rw [Lib.uvarint_small hy] at hd
  have hg : zs[j]? = some y.toUInt8 := by
    have h := congrArg (fun l : List UInt8 => l[0]?) hd
    simpa using h
  have hlt := lt_of_get hg
  rw [hz.1] at hlt
  obtain ⟨b, off, x, ha, _, hc, hx, _⟩ := hz.at hlt
  obtain rfl : x = y.toUInt8 := Option.some.inj (hx.symm.trans hg)
  rw [Lib.toUInt8_toNat (by omega)] at hc
  exact ⟨b, off, ha, hc, hlt⟩

theorem byte_big {w : World} {a : Option Addr} {len j y : Nat} {zs rest : List UInt8} (hz : Bytes w a len zs) (hd : zs.drop j = Lib.uvarint y ++ rest) (hy : ¬ y < 128) :
    ∃ b off c, a = some ⟨b, off, none⟩ ∧ w.cell? ⟨b, off + j, none⟩ = some (.int .u8 ((c : Nat) : Int)) ∧ j < len ∧ c = y % 128 + 128 ∧ zs.drop (j + 1) = Lib.uvarint (y / 128) ++ rest := by
  rw [Lib.uvarint_big (by omega)] at hd
  have hg : zs[j]? = some (y % 128 + 128).toUInt8 := by
    have h := congrArg (fun l : List UInt8 => l[0]?) hd
    simpa using h
  have hlt := lt_of_get hg
  have hd2 : zs.drop (j + 1) = Lib.uvarint (y / 128) ++ rest := by
    have h := congrArg (fun l : List UInt8 => l.drop 1) hd
    simpa [List.drop_drop] using h
  rw [hz.1] at hlt
  obtain ⟨b, off, x, ha, _, hc, hx, _⟩ := hz.at hlt
  obtain rfl : x = (y % 128 + 128).toUInt8 := Option.some.inj (hx.symm.trans hg)
  rw [Lib.toUInt8_toNat (by omega)] at hc
  exact ⟨b, off, _, ha, hc, hlt, rfl, hd2⟩

/-- What the reader gives. -/
def Reads (w : World) (x j : Nat) (e : Ending) (w' : World) : Prop := e = .returned (.tuple #[.int .u64 (x : Int), .int .i64 (j : Int), .bool true]) ∧ w' = w

theorem reads_mk {w : World} {x j x' j' : Nat} (h1 : x' = x) (h2 : j' = j) : Reads w x j (.returned (.tuple #[.int .u64 (x' : Int), .int .i64 (j' : Int), .bool true])) w := by
  subst h1 h2; exact ⟨rfl, rfl⟩

set_option maxHeartbeats 4000000 in
set_option maxRecDepth 100000 in
theorem read_any (a : Option Addr) (len cap i x : Nat) (zs rest : List UInt8) (w : World) (hx : x < 18446744073709551616) (hl : len ≤ 16777216)
    (hz : Hid (Bytes w a len zs)) (hd : Hid (zs.drop i = Lib.uvarint x ++ rest)) :
    Calls Try.prog 14 #[.slice a len cap, .int .i64 i] w (Reads w x (i + (Lib.uvarint x).length)) := by
  go_enter Try.func14, Try.ntmps14
  go_wp2
  go_loop [1, 7, 8, 9] (fun vi vv vs vk => ∃ k y acc : Nat, vk = .int .i64 k ∧ vs = .int .u64 ((7 * k : Nat) : Int) ∧ vv = .int .u64 acc ∧ vi = .int .i64 ((i + k : Nat) : Int) ∧ k ≤ 9 ∧ Hid (acc < 128 ^ k) ∧ Hid (acc + y * 128 ^ k = x) ∧ Hid (k = 0 ∨ 0 < y) ∧ Hid (zs.drop (i + k) = Lib.uvarint y ++ rest) ∧ Hid ((Lib.uvarint x).length = k + (Lib.uvarint y).length))
    (fun _ _ _ vk => 10 - (intOf vk).toNat)
  case atStart => exact ⟨0, x, 0, rfl, rfl, rfl, rfl, by omega, by show 0 < 128 ^ 0; decide, by show _ = _; simp, .inl rfl, hd, by show _ = _; omega⟩
  case round =>
    obtain ⟨k, y, acc, rfl, rfl, rfl, rfl, hk, hacc, hsum, hpos, hdr, hlen⟩ := hrel
    rcases (show k = 0 ∨ k = 1 ∨ k = 2 ∨ k = 3 ∨ k = 4 ∨ k = 5 ∨ k = 6 ∨ k = 7 ∨ k = 8 ∨ k = 9 from by omega) with rfl | rfl | rfl | rfl | rfl | rfl | rfl | rfl | rfl | rfl
    · -- round 0
      have hacc' : acc < 1 := by have h := hacc.out; simpa using h
      have hs : acc + y * 1 = x := by have h := hsum.out; simpa using h
      by_cases hy : y < 128
      · obtain ⟨b, off, rfl, hcell, hlt⟩ := byte_small hz.out hdr.out hy
        have hL : (Lib.uvarint x).length = 0 + 1 := by rw [hlen.out, Lib.uvarint_small hy]; rfl
        obtain rfl : acc = 0 := by omega
        simp only [Nat.add_zero] at hcell
        have hor : bits .or .u64 0 (y : Int) = (y : Int) := by
          rw [u64_orv0 _ _ (by omega) (by omega) (by omega) (by omega) (by omega)]
          omega
        have HS : Hid (y = x) := by show _ = _; omega
        have HJ : Hid (i + 0 + 1 = i + (Lib.uvarint x).length) := by show _ = _; omega
        clear hs hL
        go_wp2
        go_ret3
        exact reads_mk (w := w) HS.out HJ.out
      · obtain ⟨b, off, c, rfl, hcell, hlt, hcy, hdr2⟩ := byte_big hz.out hdr.out hy
        obtain rfl : acc = 0 := by omega
        simp only [Nat.add_zero] at hcell
        have hc1 : 128 ≤ c := by omega
        have hc2 : c < 256 := by omega
        have hv : bits .or .u64 0 (IntKind.u64.wrap (IntKind.u64.wrap (bits .and .u8 (c : Int) 127))) = ((c % 128 : Nat) : Int) := by
          simp (disch := omega) only [u8_and127, u64_wrap_id, u64_orv0]
          omega
        have HA : Hid (c % 128 < 128 ^ (0 + 1)) := by
          show _ < 128 ^ (0 + 1)
          simp only [Nat.reduceAdd, Nat.reducePow]
          omega
        have HS : Hid (c % 128 + y / 128 * 128 ^ (0 + 1) = x) := by
          show _ + _ * 128 ^ (0 + 1) = _
          simp only [Nat.reduceAdd, Nat.reducePow]
          omega
        have HP : Hid (0 + 1 = 0 ∨ 0 < y / 128) := .inr (by omega)
        have HD : Hid (zs.drop (i + (0 + 1)) = Lib.uvarint (y / 128) ++ rest) := hdr2
        have HL : Hid ((Lib.uvarint x).length = 0 + 1 + (Lib.uvarint (y / 128)).length) := by
          show _ = _
          rw [hlen.out, Lib.uvarint_big (by omega), List.length_cons]; omega
        clear hs hcy hdr2
        go_wp2
        go_round
        case rel => exact ⟨0 + 1, y / 128, c % 128, by go_num, by go_num, by first | rfl | go_num | (congr 1; omega), by go_num, by omega, HA, HS, HP, HD, HL⟩
        case measure => simp [intOf]
    · -- round 1
      have hacc' : acc < 128 := by have h := hacc.out; simpa using h
      have hs : acc + y * 128 = x := by have h := hsum.out; simpa using h
      by_cases hy : y < 128
      · obtain ⟨b, off, rfl, hcell, hlt⟩ := byte_small hz.out hdr.out hy
        have hL : (Lib.uvarint x).length = 1 + 1 := by rw [hlen.out, Lib.uvarint_small hy]; rfl
        have hor : bits .or .u64 (acc : Int) ((y : Int) * 128) = ((acc + y * 128 : Nat) : Int) := by
          rw [u64_orv7 _ _ (by omega) (by omega) (by omega) (by omega) (by omega)]
          omega
        have hy0 : 0 < y := by rcases hpos.out with h | h; exact absurd h (by decide); exact h
        have hy1 : ((y : Int) == 0) = false := beq_eq_false_iff_ne.2 (by omega)
        have HS : Hid (acc + y * 128 = x) := hs
        have HJ : Hid (i + 1 + 1 = i + (Lib.uvarint x).length) := by show _ = _; omega
        clear hs hL
        go_wp2
        go_ret3
        exact reads_mk (w := w) HS.out HJ.out
      · obtain ⟨b, off, c, rfl, hcell, hlt, hcy, hdr2⟩ := byte_big hz.out hdr.out hy
        have hc1 : 128 ≤ c := by omega
        have hc2 : c < 256 := by omega
        have hv : bits .or .u64 (acc : Int) (IntKind.u64.wrap (IntKind.u64.wrap (bits .and .u8 (c : Int) 127) * 128)) = ((acc + c % 128 * 128 : Nat) : Int) := by
          simp (disch := omega) only [u8_and127, u64_wrap_id, u64_orv7]
          omega
        have HA : Hid (acc + c % 128 * 128 < 128 ^ (1 + 1)) := by
          show _ < 128 ^ (1 + 1)
          simp only [Nat.reduceAdd, Nat.reducePow]
          omega
        have HS : Hid (acc + c % 128 * 128 + y / 128 * 128 ^ (1 + 1) = x) := by
          show _ + _ * 128 ^ (1 + 1) = _
          simp only [Nat.reduceAdd, Nat.reducePow]
          omega
        have HP : Hid (1 + 1 = 0 ∨ 0 < y / 128) := .inr (by omega)
        have HD : Hid (zs.drop (i + (1 + 1)) = Lib.uvarint (y / 128) ++ rest) := hdr2
        have HL : Hid ((Lib.uvarint x).length = 1 + 1 + (Lib.uvarint (y / 128)).length) := by
          show _ = _
          rw [hlen.out, Lib.uvarint_big (by omega), List.length_cons]; omega
        clear hs hcy hdr2
        go_wp2
        go_round
        case rel => exact ⟨1 + 1, y / 128, acc + c % 128 * 128, by go_num, by go_num, by first | rfl | go_num | (congr 1; omega), by go_num, by omega, HA, HS, HP, HD, HL⟩
        case measure => simp [intOf]
    · -- round 2
      have hacc' : acc < 16384 := by have h := hacc.out; simpa using h
      have hs : acc + y * 16384 = x := by have h := hsum.out; simpa using h
      by_cases hy : y < 128
      · obtain ⟨b, off, rfl, hcell, hlt⟩ := byte_small hz.out hdr.out hy
        have hL : (Lib.uvarint x).length = 2 + 1 := by rw [hlen.out, Lib.uvarint_small hy]; rfl
        have hor : bits .or .u64 (acc : Int) ((y : Int) * 16384) = ((acc + y * 16384 : Nat) : Int) := by
          rw [u64_orv14 _ _ (by omega) (by omega) (by omega) (by omega) (by omega)]
          omega
        have hy0 : 0 < y := by rcases hpos.out with h | h; exact absurd h (by decide); exact h
        have hy1 : ((y : Int) == 0) = false := beq_eq_false_iff_ne.2 (by omega)
        have HS : Hid (acc + y * 16384 = x) := hs
        have HJ : Hid (i + 2 + 1 = i + (Lib.uvarint x).length) := by show _ = _; omega
        clear hs hL
        go_wp2
        go_ret3
        exact reads_mk (w := w) HS.out HJ.out
      · obtain ⟨b, off, c, rfl, hcell, hlt, hcy, hdr2⟩ := byte_big hz.out hdr.out hy
        have hc1 : 128 ≤ c := by omega
        have hc2 : c < 256 := by omega
        have hv : bits .or .u64 (acc : Int) (IntKind.u64.wrap (IntKind.u64.wrap (bits .and .u8 (c : Int) 127) * 16384)) = ((acc + c % 128 * 16384 : Nat) : Int) := by
          simp (disch := omega) only [u8_and127, u64_wrap_id, u64_orv14]
          omega
        have HA : Hid (acc + c % 128 * 16384 < 128 ^ (2 + 1)) := by
          show _ < 128 ^ (2 + 1)
          simp only [Nat.reduceAdd, Nat.reducePow]
          omega
        have HS : Hid (acc + c % 128 * 16384 + y / 128 * 128 ^ (2 + 1) = x) := by
          show _ + _ * 128 ^ (2 + 1) = _
          simp only [Nat.reduceAdd, Nat.reducePow]
          omega
        have HP : Hid (2 + 1 = 0 ∨ 0 < y / 128) := .inr (by omega)
        have HD : Hid (zs.drop (i + (2 + 1)) = Lib.uvarint (y / 128) ++ rest) := hdr2
        have HL : Hid ((Lib.uvarint x).length = 2 + 1 + (Lib.uvarint (y / 128)).length) := by
          show _ = _
          rw [hlen.out, Lib.uvarint_big (by omega), List.length_cons]; omega
        clear hs hcy hdr2
        go_wp2
        go_round
        case rel => exact ⟨2 + 1, y / 128, acc + c % 128 * 16384, by go_num, by go_num, by first | rfl | go_num | (congr 1; omega), by go_num, by omega, HA, HS, HP, HD, HL⟩
        case measure => simp [intOf]
    · -- round 3
      have hacc' : acc < 2097152 := by have h := hacc.out; simpa using h
      have hs : acc + y * 2097152 = x := by have h := hsum.out; simpa using h
      by_cases hy : y < 128
      · obtain ⟨b, off, rfl, hcell, hlt⟩ := byte_small hz.out hdr.out hy
        have hL : (Lib.uvarint x).length = 3 + 1 := by rw [hlen.out, Lib.uvarint_small hy]; rfl
        have hor : bits .or .u64 (acc : Int) ((y : Int) * 2097152) = ((acc + y * 2097152 : Nat) : Int) := by
          rw [u64_orv21 _ _ (by omega) (by omega) (by omega) (by omega) (by omega)]
          omega
        have hy0 : 0 < y := by rcases hpos.out with h | h; exact absurd h (by decide); exact h
        have hy1 : ((y : Int) == 0) = false := beq_eq_false_iff_ne.2 (by omega)
        have HS : Hid (acc + y * 2097152 = x) := hs
        have HJ : Hid (i + 3 + 1 = i + (Lib.uvarint x).length) := by show _ = _; omega
        clear hs hL
        go_wp2
        go_ret3
        exact reads_mk (w := w) HS.out HJ.out
      · obtain ⟨b, off, c, rfl, hcell, hlt, hcy, hdr2⟩ := byte_big hz.out hdr.out hy
        have hc1 : 128 ≤ c := by omega
        have hc2 : c < 256 := by omega
        have hv : bits .or .u64 (acc : Int) (IntKind.u64.wrap (IntKind.u64.wrap (bits .and .u8 (c : Int) 127) * 2097152)) = ((acc + c % 128 * 2097152 : Nat) : Int) := by
          simp (disch := omega) only [u8_and127, u64_wrap_id, u64_orv21]
          omega
        have HA : Hid (acc + c % 128 * 2097152 < 128 ^ (3 + 1)) := by
          show _ < 128 ^ (3 + 1)
          simp only [Nat.reduceAdd, Nat.reducePow]
          omega
        have HS : Hid (acc + c % 128 * 2097152 + y / 128 * 128 ^ (3 + 1) = x) := by
          show _ + _ * 128 ^ (3 + 1) = _
          simp only [Nat.reduceAdd, Nat.reducePow]
          omega
        have HP : Hid (3 + 1 = 0 ∨ 0 < y / 128) := .inr (by omega)
        have HD : Hid (zs.drop (i + (3 + 1)) = Lib.uvarint (y / 128) ++ rest) := hdr2
        have HL : Hid ((Lib.uvarint x).length = 3 + 1 + (Lib.uvarint (y / 128)).length) := by
          show _ = _
          rw [hlen.out, Lib.uvarint_big (by omega), List.length_cons]; omega
        clear hs hcy hdr2
        go_wp2
        go_round
        case rel => exact ⟨3 + 1, y / 128, acc + c % 128 * 2097152, by go_num, by go_num, by first | rfl | go_num | (congr 1; omega), by go_num, by omega, HA, HS, HP, HD, HL⟩
        case measure => simp [intOf]
    · -- round 4
      have hacc' : acc < 268435456 := by have h := hacc.out; simpa using h
      have hs : acc + y * 268435456 = x := by have h := hsum.out; simpa using h
      by_cases hy : y < 128
      · obtain ⟨b, off, rfl, hcell, hlt⟩ := byte_small hz.out hdr.out hy
        have hL : (Lib.uvarint x).length = 4 + 1 := by rw [hlen.out, Lib.uvarint_small hy]; rfl
        have hor : bits .or .u64 (acc : Int) ((y : Int) * 268435456) = ((acc + y * 268435456 : Nat) : Int) := by
          rw [u64_orv28 _ _ (by omega) (by omega) (by omega) (by omega) (by omega)]
          omega
        have hy0 : 0 < y := by rcases hpos.out with h | h; exact absurd h (by decide); exact h
        have hy1 : ((y : Int) == 0) = false := beq_eq_false_iff_ne.2 (by omega)
        have HS : Hid (acc + y * 268435456 = x) := hs
        have HJ : Hid (i + 4 + 1 = i + (Lib.uvarint x).length) := by show _ = _; omega
        clear hs hL
        go_wp2
        go_ret3
        exact reads_mk (w := w) HS.out HJ.out
      · obtain ⟨b, off, c, rfl, hcell, hlt, hcy, hdr2⟩ := byte_big hz.out hdr.out hy
        have hc1 : 128 ≤ c := by omega
        have hc2 : c < 256 := by omega
        have hv : bits .or .u64 (acc : Int) (IntKind.u64.wrap (IntKind.u64.wrap (bits .and .u8 (c : Int) 127) * 268435456)) = ((acc + c % 128 * 268435456 : Nat) : Int) := by
          simp (disch := omega) only [u8_and127, u64_wrap_id, u64_orv28]
          omega
        have HA : Hid (acc + c % 128 * 268435456 < 128 ^ (4 + 1)) := by
          show _ < 128 ^ (4 + 1)
          simp only [Nat.reduceAdd, Nat.reducePow]
          omega
        have HS : Hid (acc + c % 128 * 268435456 + y / 128 * 128 ^ (4 + 1) = x) := by
          show _ + _ * 128 ^ (4 + 1) = _
          simp only [Nat.reduceAdd, Nat.reducePow]
          omega
        have HP : Hid (4 + 1 = 0 ∨ 0 < y / 128) := .inr (by omega)
        have HD : Hid (zs.drop (i + (4 + 1)) = Lib.uvarint (y / 128) ++ rest) := hdr2
        have HL : Hid ((Lib.uvarint x).length = 4 + 1 + (Lib.uvarint (y / 128)).length) := by
          show _ = _
          rw [hlen.out, Lib.uvarint_big (by omega), List.length_cons]; omega
        clear hs hcy hdr2
        go_wp2
        go_round
        case rel => exact ⟨4 + 1, y / 128, acc + c % 128 * 268435456, by go_num, by go_num, by first | rfl | go_num | (congr 1; omega), by go_num, by omega, HA, HS, HP, HD, HL⟩
        case measure => simp [intOf]
    · -- round 5
      have hacc' : acc < 34359738368 := by have h := hacc.out; simpa using h
      have hs : acc + y * 34359738368 = x := by have h := hsum.out; simpa using h
      by_cases hy : y < 128
      · obtain ⟨b, off, rfl, hcell, hlt⟩ := byte_small hz.out hdr.out hy
        have hL : (Lib.uvarint x).length = 5 + 1 := by rw [hlen.out, Lib.uvarint_small hy]; rfl
        have hor : bits .or .u64 (acc : Int) ((y : Int) * 34359738368) = ((acc + y * 34359738368 : Nat) : Int) := by
          rw [u64_orv35 _ _ (by omega) (by omega) (by omega) (by omega) (by omega)]
          omega
        have hy0 : 0 < y := by rcases hpos.out with h | h; exact absurd h (by decide); exact h
        have hy1 : ((y : Int) == 0) = false := beq_eq_false_iff_ne.2 (by omega)
        have HS : Hid (acc + y * 34359738368 = x) := hs
        have HJ : Hid (i + 5 + 1 = i + (Lib.uvarint x).length) := by show _ = _; omega
        clear hs hL
        go_wp2
        go_ret3
        exact reads_mk (w := w) HS.out HJ.out
      · obtain ⟨b, off, c, rfl, hcell, hlt, hcy, hdr2⟩ := byte_big hz.out hdr.out hy
        have hc1 : 128 ≤ c := by omega
        have hc2 : c < 256 := by omega
        have hv : bits .or .u64 (acc : Int) (IntKind.u64.wrap (IntKind.u64.wrap (bits .and .u8 (c : Int) 127) * 34359738368)) = ((acc + c % 128 * 34359738368 : Nat) : Int) := by
          simp (disch := omega) only [u8_and127, u64_wrap_id, u64_orv35]
          omega
        have HA : Hid (acc + c % 128 * 34359738368 < 128 ^ (5 + 1)) := by
          show _ < 128 ^ (5 + 1)
          simp only [Nat.reduceAdd, Nat.reducePow]
          omega
        have HS : Hid (acc + c % 128 * 34359738368 + y / 128 * 128 ^ (5 + 1) = x) := by
          show _ + _ * 128 ^ (5 + 1) = _
          simp only [Nat.reduceAdd, Nat.reducePow]
          omega
        have HP : Hid (5 + 1 = 0 ∨ 0 < y / 128) := .inr (by omega)
        have HD : Hid (zs.drop (i + (5 + 1)) = Lib.uvarint (y / 128) ++ rest) := hdr2
        have HL : Hid ((Lib.uvarint x).length = 5 + 1 + (Lib.uvarint (y / 128)).length) := by
          show _ = _
          rw [hlen.out, Lib.uvarint_big (by omega), List.length_cons]; omega
        clear hs hcy hdr2
        go_wp2
        go_round
        case rel => exact ⟨5 + 1, y / 128, acc + c % 128 * 34359738368, by go_num, by go_num, by first | rfl | go_num | (congr 1; omega), by go_num, by omega, HA, HS, HP, HD, HL⟩
        case measure => simp [intOf]
    · -- round 6
      have hacc' : acc < 4398046511104 := by have h := hacc.out; simpa using h
      have hs : acc + y * 4398046511104 = x := by have h := hsum.out; simpa using h
      by_cases hy : y < 128
      · obtain ⟨b, off, rfl, hcell, hlt⟩ := byte_small hz.out hdr.out hy
        have hL : (Lib.uvarint x).length = 6 + 1 := by rw [hlen.out, Lib.uvarint_small hy]; rfl
        have hor : bits .or .u64 (acc : Int) ((y : Int) * 4398046511104) = ((acc + y * 4398046511104 : Nat) : Int) := by
          rw [u64_orv42 _ _ (by omega) (by omega) (by omega) (by omega) (by omega)]
          omega
        have hy0 : 0 < y := by rcases hpos.out with h | h; exact absurd h (by decide); exact h
        have hy1 : ((y : Int) == 0) = false := beq_eq_false_iff_ne.2 (by omega)
        have HS : Hid (acc + y * 4398046511104 = x) := hs
        have HJ : Hid (i + 6 + 1 = i + (Lib.uvarint x).length) := by show _ = _; omega
        clear hs hL
        go_wp2
        go_ret3
        exact reads_mk (w := w) HS.out HJ.out
      · obtain ⟨b, off, c, rfl, hcell, hlt, hcy, hdr2⟩ := byte_big hz.out hdr.out hy
        have hc1 : 128 ≤ c := by omega
        have hc2 : c < 256 := by omega
        have hv : bits .or .u64 (acc : Int) (IntKind.u64.wrap (IntKind.u64.wrap (bits .and .u8 (c : Int) 127) * 4398046511104)) = ((acc + c % 128 * 4398046511104 : Nat) : Int) := by
          simp (disch := omega) only [u8_and127, u64_wrap_id, u64_orv42]
          omega
        have HA : Hid (acc + c % 128 * 4398046511104 < 128 ^ (6 + 1)) := by
          show _ < 128 ^ (6 + 1)
          simp only [Nat.reduceAdd, Nat.reducePow]
          omega
        have HS : Hid (acc + c % 128 * 4398046511104 + y / 128 * 128 ^ (6 + 1) = x) := by
          show _ + _ * 128 ^ (6 + 1) = _
          simp only [Nat.reduceAdd, Nat.reducePow]
          omega
        have HP : Hid (6 + 1 = 0 ∨ 0 < y / 128) := .inr (by omega)
        have HD : Hid (zs.drop (i + (6 + 1)) = Lib.uvarint (y / 128) ++ rest) := hdr2
        have HL : Hid ((Lib.uvarint x).length = 6 + 1 + (Lib.uvarint (y / 128)).length) := by
          show _ = _
          rw [hlen.out, Lib.uvarint_big (by omega), List.length_cons]; omega
        clear hs hcy hdr2
        go_wp2
        go_round
        case rel => exact ⟨6 + 1, y / 128, acc + c % 128 * 4398046511104, by go_num, by go_num, by first | rfl | go_num | (congr 1; omega), by go_num, by omega, HA, HS, HP, HD, HL⟩
        case measure => simp [intOf]
    · -- round 7
      have hacc' : acc < 562949953421312 := by have h := hacc.out; simpa using h
      have hs : acc + y * 562949953421312 = x := by have h := hsum.out; simpa using h
      by_cases hy : y < 128
      · obtain ⟨b, off, rfl, hcell, hlt⟩ := byte_small hz.out hdr.out hy
        have hL : (Lib.uvarint x).length = 7 + 1 := by rw [hlen.out, Lib.uvarint_small hy]; rfl
        have hor : bits .or .u64 (acc : Int) ((y : Int) * 562949953421312) = ((acc + y * 562949953421312 : Nat) : Int) := by
          rw [u64_orv49 _ _ (by omega) (by omega) (by omega) (by omega) (by omega)]
          omega
        have hy0 : 0 < y := by rcases hpos.out with h | h; exact absurd h (by decide); exact h
        have hy1 : ((y : Int) == 0) = false := beq_eq_false_iff_ne.2 (by omega)
        have HS : Hid (acc + y * 562949953421312 = x) := hs
        have HJ : Hid (i + 7 + 1 = i + (Lib.uvarint x).length) := by show _ = _; omega
        clear hs hL
        go_wp2
        go_ret3
        exact reads_mk (w := w) HS.out HJ.out
      · obtain ⟨b, off, c, rfl, hcell, hlt, hcy, hdr2⟩ := byte_big hz.out hdr.out hy
        have hc1 : 128 ≤ c := by omega
        have hc2 : c < 256 := by omega
        have hv : bits .or .u64 (acc : Int) (IntKind.u64.wrap (IntKind.u64.wrap (bits .and .u8 (c : Int) 127) * 562949953421312)) = ((acc + c % 128 * 562949953421312 : Nat) : Int) := by
          simp (disch := omega) only [u8_and127, u64_wrap_id, u64_orv49]
          omega
        have HA : Hid (acc + c % 128 * 562949953421312 < 128 ^ (7 + 1)) := by
          show _ < 128 ^ (7 + 1)
          simp only [Nat.reduceAdd, Nat.reducePow]
          omega
        have HS : Hid (acc + c % 128 * 562949953421312 + y / 128 * 128 ^ (7 + 1) = x) := by
          show _ + _ * 128 ^ (7 + 1) = _
          simp only [Nat.reduceAdd, Nat.reducePow]
          omega
        have HP : Hid (7 + 1 = 0 ∨ 0 < y / 128) := .inr (by omega)
        have HD : Hid (zs.drop (i + (7 + 1)) = Lib.uvarint (y / 128) ++ rest) := hdr2
        have HL : Hid ((Lib.uvarint x).length = 7 + 1 + (Lib.uvarint (y / 128)).length) := by
          show _ = _
          rw [hlen.out, Lib.uvarint_big (by omega), List.length_cons]; omega
        clear hs hcy hdr2
        go_wp2
        go_round
        case rel => exact ⟨7 + 1, y / 128, acc + c % 128 * 562949953421312, by go_num, by go_num, by first | rfl | go_num | (congr 1; omega), by go_num, by omega, HA, HS, HP, HD, HL⟩
        case measure => simp [intOf]
    · -- round 8
      have hacc' : acc < 72057594037927936 := by have h := hacc.out; simpa using h
      have hs : acc + y * 72057594037927936 = x := by have h := hsum.out; simpa using h
      by_cases hy : y < 128
      · obtain ⟨b, off, rfl, hcell, hlt⟩ := byte_small hz.out hdr.out hy
        have hL : (Lib.uvarint x).length = 8 + 1 := by rw [hlen.out, Lib.uvarint_small hy]; rfl
        have hor : bits .or .u64 (acc : Int) ((y : Int) * 72057594037927936) = ((acc + y * 72057594037927936 : Nat) : Int) := by
          rw [u64_orv56 _ _ (by omega) (by omega) (by omega) (by omega) (by omega)]
          omega
        have hy0 : 0 < y := by rcases hpos.out with h | h; exact absurd h (by decide); exact h
        have hy1 : ((y : Int) == 0) = false := beq_eq_false_iff_ne.2 (by omega)
        have HS : Hid (acc + y * 72057594037927936 = x) := hs
        have HJ : Hid (i + 8 + 1 = i + (Lib.uvarint x).length) := by show _ = _; omega
        clear hs hL
        go_wp2
        go_ret3
        exact reads_mk (w := w) HS.out HJ.out
      · obtain ⟨b, off, c, rfl, hcell, hlt, hcy, hdr2⟩ := byte_big hz.out hdr.out hy
        have hc1 : 128 ≤ c := by omega
        have hc2 : c < 256 := by omega
        have hv : bits .or .u64 (acc : Int) (IntKind.u64.wrap (IntKind.u64.wrap (bits .and .u8 (c : Int) 127) * 72057594037927936)) = ((acc + c % 128 * 72057594037927936 : Nat) : Int) := by
          simp (disch := omega) only [u8_and127, u64_wrap_id, u64_orv56]
          omega
        have HA : Hid (acc + c % 128 * 72057594037927936 < 128 ^ (8 + 1)) := by
          show _ < 128 ^ (8 + 1)
          simp only [Nat.reduceAdd, Nat.reducePow]
          omega
        have HS : Hid (acc + c % 128 * 72057594037927936 + y / 128 * 128 ^ (8 + 1) = x) := by
          show _ + _ * 128 ^ (8 + 1) = _
          simp only [Nat.reduceAdd, Nat.reducePow]
          omega
        have HP : Hid (8 + 1 = 0 ∨ 0 < y / 128) := .inr (by omega)
        have HD : Hid (zs.drop (i + (8 + 1)) = Lib.uvarint (y / 128) ++ rest) := hdr2
        have HL : Hid ((Lib.uvarint x).length = 8 + 1 + (Lib.uvarint (y / 128)).length) := by
          show _ = _
          rw [hlen.out, Lib.uvarint_big (by omega), List.length_cons]; omega
        clear hs hcy hdr2
        go_wp2
        go_round
        case rel => exact ⟨8 + 1, y / 128, acc + c % 128 * 72057594037927936, by go_num, by go_num, by first | rfl | go_num | (congr 1; omega), by go_num, by omega, HA, HS, HP, HD, HL⟩
        case measure => simp [intOf]
    · -- round 9
      have hacc' : acc < 9223372036854775808 := by have h := hacc.out; simpa using h
      have hs : acc + y * 9223372036854775808 = x := by have h := hsum.out; simpa using h
      by_cases hy : y < 128
      · obtain ⟨b, off, rfl, hcell, hlt⟩ := byte_small hz.out hdr.out hy
        have hL : (Lib.uvarint x).length = 9 + 1 := by rw [hlen.out, Lib.uvarint_small hy]; rfl
        have hor : bits .or .u64 (acc : Int) ((y : Int) * 9223372036854775808) = ((acc + y * 9223372036854775808 : Nat) : Int) := by
          rw [u64_orv63 _ _ (by omega) (by omega) (by omega) (by omega) (by omega)]
          omega
        have hy0 : 0 < y := by rcases hpos.out with h | h; exact absurd h (by decide); exact h
        have hy1 : ((y : Int) == 0) = false := beq_eq_false_iff_ne.2 (by omega)
        have HS : Hid (acc + y * 9223372036854775808 = x) := hs
        have hy2 : y ≤ 1 := by omega
        have HJ : Hid (i + 9 + 1 = i + (Lib.uvarint x).length) := by show _ = _; omega
        clear hs hL
        go_wp2
        go_ret3
        exact reads_mk (w := w) HS.out HJ.out
      · exfalso
        omega

end Go.Proofs.Qxb6617351a

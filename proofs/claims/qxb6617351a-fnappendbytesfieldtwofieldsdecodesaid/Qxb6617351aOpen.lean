/-
  A slice of bytes that came in, as the shells tell it, read as bytes.
-/
import Derived.Test.Qxb6617351aBytes
import Derived.OpenShut
namespace Go.Proofs.Qxb6617351a
open Go.RowKit

theorem bytes_of_ints (w : World) (a : Option Addr) (len cap : Nat) (zs : List Int)
    (h : (a = none ∧ len = 0 ∧ cap = 0 ∧ zs = []) ∨
      ∃ x, a = some x ∧ len ≤ cap ∧ cap ≤ maxLen ∧ zs.length = cap ∧ (∀ i, i < zs.length → w.cell? (x.add i) = some (.int .u8 (zs.getD i 0))) ∧ ∀ n ∈ zs, (Lit.int .u8 n).wf = true) :
    ∃ ys : List UInt8, ys.length = len ∧ Bytes w a len ys ∧ len ≤ 9223372036854775807 := by
  rcases h with ⟨rfl, rfl, rfl, rfl⟩ | ⟨x, rfl, hl, hm, hz, hc, hw⟩
  · exact ⟨[], rfl, Bytes.empty _ _, by omega⟩
  · unfold maxLen at hm
    have hlen : ((zs.take len).map (fun z => z.toNat.toUInt8)).length = len := by simp; omega
    refine ⟨(zs.take len).map (fun z => z.toNat.toUInt8), hlen, ⟨hlen, fun h0 => ?_⟩, by omega⟩
    obtain ⟨b, off, spot⟩ := x
    have hspot : spot = none := by simpa [Addr.add] using World.cell?_spot (hc 0 (by omega))
    subst hspot
    refine ⟨b, off, rfl, ?_, fun k y hy => ?_⟩
    · have := hc 0 (by omega)
      exact World.block_lt_of_cell? _ _ this
    · have hk := lt_of_get hy
      rw [hlen] at hk
      have h1 := hc k (by omega)
      rw [Go.WideShapes.add_plain] at h1
      rw [h1]
      rw [List.getElem?_map, List.getElem?_take_of_lt hk, List.getElem?_eq_getElem (by omega)] at hy
      have hy2 : (zs[k]'(by omega)).toNat.toUInt8 = y := by simpa using hy
      have hb := bounds_u8 (hw _ (List.getElem_mem (show k < zs.length by omega)))
      rw [List.getD, List.getElem?_eq_getElem (by omega), ← hy2, Lib.toUInt8_toNat (by omega)]
      simp only [Option.getD_some, Option.some.injEq, Value.int.injEq, true_and]
      omega

theorem nat_of_u64 (a : Int) (h : (Lit.int .u64 a).wf = true) : ∃ n : Nat, a = n ∧ n < 18446744073709551616 := by
  have hb := bounds_u64 h
  exact ⟨a.toNat, by omega, by omega⟩

end Go.Proofs.Qxb6617351a

/-
  A slice of items that came in, read as items.
-/
import Derived.Test.Qxb6617404aSmall
import Derived.ProofKit
import Derived.OpenShut
import Derived.ChangeOld
import Derived.Below
import Derived.Deep.SlicePairs
namespace Go.Proofs.Qxb6617404a
open Go.ChangeShapes Go.WideShapes Go.ChangeAt Go.RowKit

theorem own : ownKnob Try.prog.godebug = none := by kernel_rfl
theorem laidOut : laidOutB Try.prog = true := by kernel_rfl

/-- The bits in a value that is a float. -/
def bitsOf : Value → Nat | .float _ b => b | _ => 0

theorem trod_f32 {H : Type} {enc : TypeId × Value → H} {w : World} {base : Nat} {spare : Nat → Bool} {held : Bool} {n : Nat} {v : Value} {y : DataW H × List MemPlace} (h : DataW.trod enc Try.prog w base spare held n 28 [v] = some y) : ∃ b, v = .float .f32 b := by
  cases n with
  | zero => simp [DataW.trod] at h
  | succ n =>
    simp only [DataW.trod, Try.underlying28] at h
    split at h
    all_goals simp_all

theorem Try.und30 : ∃ f0 f1, Try.prog.underlying 30 = some (.struct #[f0, f1]) ∧ f0.offset = 0 ∧ f1.offset = 1 ∧ f0.type = 21 ∧ f1.type = 28 := ⟨_, _, Try.underlying30, rfl, rfl, rfl, rfl⟩

theorem opened {H : Type} {enc : TypeId × Value → H} {W : World} {a : Option Addr} {len cap : Nat} {d : DataW H} {p : List MemPlace}
    (h : DataW.Trod enc Try.prog W 0 (fun _ => true) true 22 (.slice a len cap) d p) :
    ∃ l, Items W a len l ∧ len ≤ cap ∧ len ≤ 9223372036854775807 := by
  obtain ⟨fuel, hf⟩ := h
  obtain ⟨f0, f1, he, o0, o1, t0, t1⟩ := Try.und30
  rcases Deep.open_slice_pairs Try.underlying22 he (by kernel_rfl) o0 o1 (by rw [t0]; kernel_rfl) (by rw [t1]; kernel_rfl) hf with ⟨hcs, _⟩ | ⟨x, l, c, m, n, V0, V1, D0, D1, P0, P1, hcs, _, hl, hm, hmm, _, hc⟩
  · simp [Value.cells] at hcs
    obtain ⟨rfl, rfl, rfl⟩ := hcs
    exact ⟨[], ⟨rfl, fun h => by omega⟩, by omega, by omega⟩
  · simp [Value.cells] at hcs
    obtain ⟨rfl, rfl, rfl⟩ := hcs
    simp only [if_true] at hmm
    rw [hmm] at hc
    unfold maxLen at hm
    have hc' : ∀ i, i < cap → W.cell? (x.add (i * 2)) = some (.int .i32 (intOf (V0 i))) ∧ W.cell? (x.add (i * 2 + 1)) = some (.float .f32 (bitsOf (V1 i))) := by
      intro i hi
      obtain ⟨c0, c1, e0, e1⟩ := hc i hi
      rw [t0] at e0
      rw [t1] at e1
      obtain ⟨n0, h0, _, _⟩ := DataW.trod_int Try.underlying21 e0
      obtain ⟨b1, h1⟩ := trod_f32 e1
      have h0' : V0 i = .int .i32 n0 := by simpa using h0
      rw [c0, c1, h0', h1]
      exact ⟨rfl, rfl⟩
    refine ⟨(List.range len).map (fun i => ⟨intOf (V0 i), bitsOf (V1 i)⟩), ⟨by simp, fun h0 => ?_⟩, hl, by omega⟩
    obtain ⟨b, off, spot⟩ := x
    have hspot : spot = none := by simpa [Addr.add] using World.cell?_spot (hc' 0 (by omega)).1
    subst hspot
    refine ⟨b, off, rfl, ?_, fun i y hy => ?_⟩
    · exact World.block_lt_of_cell? _ _ (hc' 0 (by omega)).1
    · rw [List.getElem?_map] at hy
      obtain ⟨j, hj, rfl⟩ := Option.map_eq_some_iff.1 hy
      have hi : i < len := by
        rcases Nat.lt_or_ge i len with h5 | h5
        · exact h5
        · rw [List.getElem?_eq_none (by simpa using h5)] at hj; cases hj
      obtain rfl : i = j := by
        rw [List.getElem?_range hi] at hj; exact Option.some.inj hj
      have := hc' i (by omega)
      rw [add_plain, add_plain] at this
      exact this

end Go.Proofs.Qxb6617404a

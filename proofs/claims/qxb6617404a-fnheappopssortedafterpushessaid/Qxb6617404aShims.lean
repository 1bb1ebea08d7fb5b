/-
  The shims round pop and the items; the bounds.
-/
import Derived.Test.Qxb6617404aPop
import Derived.Test.Qxb6617404aMulti
namespace Go.Proofs.Qxb6617404a
open Go.RowKit
attribute [local go_sem] run_store_float

theorem HeapAt.view {w : World} {B hb : Nat} {v : Value} {worst : Bool} {l : List It} (h : HeapAt w B hb v worst l) :
    ∃ a cap, v = .slice a l.length cap ∧ Items w a l.length l ∧ l.length ≤ cap ∧ cap ≤ 9223372036854775807 := by
  rcases h.own.2 with ⟨hv, h0⟩ | ⟨g, cap, cur, hv, hB, hh, h1, h2, h3, h4⟩
  · rw [h0]
    exact ⟨none, 0, hv, ⟨h0, fun h => by omega⟩, Nat.le_refl _, by omega⟩
  · subst hv
    refine ⟨some ⟨g, 0, none⟩, cap, rfl, ⟨rfl, fun _ => ⟨g, 0, rfl, ?_, fun i x hx => ?_⟩⟩, h1, h2⟩
    · rcases Nat.lt_or_ge g w.heap.size with h5 | h5
      · exact h5
      · rw [Array.getElem?_eq_none h5] at hh; cases hh
    · obtain ⟨c0, c1, _, _⟩ := h.item rfl hx
      rw [Nat.zero_add]
      exact ⟨c0, c1⟩

set_option maxRecDepth 100000 in
set_option maxHeartbeats 400000 in
theorem popShim_any (B hb g n cap : Nat) (worst : Bool) (l : List It) (x z : It) (w : World) (h : Hid (HeapAt w B hb (.slice (some ⟨g, 0, none⟩) (n + 1) cap) worst l)) (hln : Hid (l.length = n + 1)) (hn : n ≤ 8192) (hg : g ≠ hb) (hcap : n + 1 ≤ cap)
    (hx : Hid (l[0]? = some x)) (hz : Hid (l[n]? = some z)) :
    Calls Try.prog 10 #[.pointer (some ⟨hb, 0, none⟩)] w (Popped w B hb (.slice (some ⟨g, 0, none⟩) (n + 1) cap) worst x (popL worst l)) := by
  have HH : Hid (∀ O, HeapAt (w.alloc O) B hb (.slice (some ⟨g, 0, none⟩) (n + 1) cap) worst l) := fun O => h.out.below ((Below.refl _ _).alloc (Nat.le_refl _) _)
  have hlb : hb < w.heap.size := World.block_lt_of_cell? _ _ h.out.c0
  have hlg : g < w.heap.size := World.block_lt_of_cell? _ _ (h.out.item hln.out hx.out).1
  go_enter Try.func10, Try.ntmps10
  go_wp2_with fail
  refine (pop_any B hb g n cap worst l x z _ (HH.out _) hln hn hg hcap hx hz).mono ?_
  rintro e w1 ⟨rfl, v', h1, h2⟩
  have hs := h2.size
  rw [World.size_alloc] at hs
  have hN : w1.heap[w.heap.size]? = some (.cells #[Value.int IntKind.i32 0, Value.float FloatKind.f32 0] 32 (0, 0)) :=
    (h2.block _ (by rw [World.size_alloc]; omega) (by omega) (by intro e; have := Option.some.inj e; simp at this; omega)).trans (heap_alloc_new w _)
  obtain ⟨r0, r1, r2, r3⟩ := pair_cells hN
  have HM : Hid (Moved w hb (.slice (some ⟨g, 0, none⟩) (n + 1) cap) w1 v') := (Moved.of_below hb _ ((Below.refl _ _).alloc (Nat.le_refl _) _)).trans h2
  have H1 : Hid (HeapAt w1 B hb v' worst (popL worst l)) := h1
  have hv' : v'.ownBlock ≠ some w.heap.size := by
    intro e
    rcases h2.at_ with h3 | ⟨q, h3, h4⟩
    · rw [h3] at e; have := Option.some.inj e; simp at this; omega
    · rw [h3] at e; have := Option.some.inj e; rw [World.size_alloc] at h4; omega
  clear hN h1 h2
  go_wp2_with fail
  refine bodyPost_ret (v := .agg #[.int .i32 x.id, .float .f32 x.sim]) (by simp [results, Try.results10, go_sem, r0, r1]) rfl ⟨rfl, v', ?_, ?_⟩
  · exact (H1.out.far w.heap.size 0 _ (by omega) hv').far w.heap.size 1 _ (by omega) hv'
  · exact (HM.out.late _ 0 _ (Nat.le_refl _)).late _ 1 _ (Nat.le_refl _)

set_option maxHeartbeats 400000 in
theorem items_any (hb : Nat) (v : Value) (w : World) (h : w.cell? ⟨hb, 0, none⟩ = some v) :
    Calls Try.prog 11 #[.pointer (some ⟨hb, 0, none⟩)] w fun e w' => e = .returned v ∧ w' = w := by
  go_enter Try.func11, Try.ntmps11
  go_wp2
  go_ret
  exact ⟨rfl, rfl⟩

/-- A call that answers a bool and turns nothing. -/
def Answers (w : World) (p : Bool → Prop) (e : Ending) (w' : World) : Prop := ∃ c, e = .returned (.bool c) ∧ w' = w ∧ p c

set_option maxHeartbeats 400000 in
theorem bytes6 (a : Option Addr) (len cap : Nat) (worst : Bool) (w : World) (h : len ≤ 9223372036854775807) : Calls Try.prog 6 #[.slice a len cap, .bool worst] w (Answers w fun _ => True) := by
  go_enter Try.func6, Try.ntmps6
  go_wp2
  all_goals go_ret
  all_goals exact ⟨_, rfl, rfl, trivial⟩

set_option maxHeartbeats 400000 in
theorem bytes19 (a : Option Addr) (len cap : Nat) (worst : Bool) (w : World) (h : len ≤ 9223372036854775807) : Calls Try.prog 19 #[.slice a len cap, .bool worst] w (Answers w fun _ => True) := by
  go_enter Try.func19, Try.ntmps19
  go_wp2
  all_goals go_ret
  all_goals exact ⟨_, rfl, rfl, trivial⟩

set_option maxHeartbeats 400000 in
theorem bytes14 (a : Option Addr) (len cap : Nat) (worst : Bool) (r : It) (w : World) (h : len ≤ 9223372036854775807) : Calls Try.prog 14 #[.slice a len cap, .bool worst, .agg #[.int .i32 r.id, .float .f32 r.sim]] w fun e w' => ∃ c, e = .returned (.bool c) ∧ Below w.heap.size w w' := by
  go_enter Try.func14, Try.ntmps14
  go_wp2
  all_goals go_ret
  all_goals exact ⟨_, rfl, (Below.refl _ _).alloc (Nat.le_refl _) _⟩

end Go.Proofs.Qxb6617404a

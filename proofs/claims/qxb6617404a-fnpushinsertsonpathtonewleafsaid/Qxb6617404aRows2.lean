/-
  Rows of items that a call makes; hbToResults; the shims.
-/
import Derived.Test.Qxb6617404aSmall2
namespace Go.Proofs.Qxb6617404a
open Go.RowKit
attribute [local go_sem] run_store_float

/-- Block g holds just the items l. -/
def Row2 (w : World) (g : Nat) (t : TypeId) (l : List It) : Prop := w.heap[g]? = some (.cells (cellsOf l).toArray t (0, 0))

theorem Row2.lt {w : World} {g : Nat} {t : TypeId} {l : List It} (h : Row2 w g t l) : g < w.heap.size := by
  rcases Nat.lt_or_ge g w.heap.size with h1 | h1
  · exact h1
  · unfold Row2 at h; rw [Array.getElem?_eq_none h1] at h; cases h

theorem Row2.at {w : World} {g : Nat} {t : TypeId} {l : List It} (h : Row2 w g t l) {i : Nat} {x : It} (hx : l[i]? = some x) :
    w.cell? ⟨g, i * 2, none⟩ = some (.int .i32 x.id) ∧ w.cell? ⟨g, i * 2 + 1, none⟩ = some (.float .f32 x.sim) ∧ w.frozen? ⟨g, i * 2, none⟩ = false ∧ w.frozen? ⟨g, i * 2 + 1, none⟩ = false := by
  obtain ⟨h1, h2⟩ := cellsOf_get l i x hx
  unfold Row2 at h
  simp [World.cell?, World.frozen?, h, h1, h2]

theorem Row2.put {w : World} {g : Nat} {t : TypeId} {l : List It} (h : Row2 w g t l) (i : Nat) (z : It) :
    Row2 ((w.setCell ⟨g, i * 2, none⟩ (.int .i32 z.id)).setCell ⟨g, i * 2 + 1, none⟩ (.float .f32 z.sim)) g t (l.set i z) := by
  unfold Row2 at h ⊢
  rw [heap_setCell_same _ _ _ _ _ _ (heap_setCell_same _ _ _ _ _ _ h), cellsOf_set]
  simp

theorem Row2.kept {w w' : World} {g : Nat} {t : TypeId} {l : List It} (h : Row2 w g t l) (hb : w'.heap[g]? = w.heap[g]?) : Row2 w' g t l := hb.trans h

theorem Row2.items {w : World} {g : Nat} {t : TypeId} {l : List It} (h : Row2 w g t l) : Items w (some ⟨g, 0, none⟩) l.length l :=
  ⟨rfl, fun _ => ⟨g, 0, rfl, h.lt, fun i x hx => by rw [Nat.zero_add]; exact ⟨(h.at hx).1, (h.at hx).2.1⟩⟩⟩

theorem Row2.owns {w : World} {g B : Nat} {l : List It} (h : Row2 w g 32 l) (hB : B ≤ g) (hm : l.length ≤ maxLen) : w.ownsRow B 32 2 (.slice (some ⟨g, 0, none⟩) l.length l.length) l.length (cellsOf l) :=
  ⟨cellsOf_length l, .inr ⟨g, l.length, _, rfl, hB, h, Nat.le_refl _, hm, by simp [cellsOf_length], by
    rw [List.take_of_length_le]
    simp [cellsOf_length]⟩⟩

/-- The zero item. -/
def z0 : It := ⟨0, 0⟩

theorem made_two (n : Nat) : madeCells #[.int .i32 0, .float .f32 0] (n * 2) = (cellsOf (List.replicate n z0)).toArray := by
  apply Array.toList_inj.1
  apply List.ext_getElem?
  intro j
  have hl : (cellsOf (List.replicate n z0)).length = n * 2 := by rw [cellsOf_length, List.length_replicate]
  by_cases hj : j < n * 2
  · have hr : (List.replicate n z0)[j / 2]? = some z0 := by rw [List.getElem?_replicate, if_pos (by omega)]
    obtain ⟨h1, h2⟩ := cellsOf_get _ _ _ hr
    rcases (show j = j / 2 * 2 ∨ j = j / 2 * 2 + 1 by omega) with e | e
    · have hm : j % 2 = 0 := by omega
      rw [← e] at h1
      refine Eq.trans ?_ h1.symm
      simp [madeCells, hj, hm, z0]
    · have hm : j % 2 = 1 := by omega
      rw [← e] at h2
      refine Eq.trans ?_ h2.symm
      simp [madeCells, hj, hm, z0]
  · rw [List.getElem?_eq_none (by simp [size_madeCells]; omega), List.getElem?_eq_none (by simp [hl]; omega)]

/-- 'make([]T, n)', T of the two cells. -/
theorem make_two (t e : TypeId) (ht : Try.prog.underlying t = some (.slice e)) (hinfo : (Try.prog.info? e).map (fun i => (i.zero, i.size, i.bytes)) = some (some (.agg #[.int .i32 0, .float .f32 0]), 2, 8)) (n : Nat) (hn : n ≤ 1048576) (w : World) :
    (Instr.makeSlice t (.int .i64 (n : Int)) (.int .i64 (n : Int))).run Try.prog w = .ok (.slice (some ⟨w.heap.size, 0, none⟩) n n) (w.alloc (.cells (cellsOf (List.replicate n z0)).toArray e)) := by
  obtain ⟨i, hi, hzz⟩ := Option.map_eq_some_iff.1 hinfo
  simp only [Prod.mk.injEq] at hzz
  obtain ⟨h1, h2, h3⟩ := hzz
  have hr := run_make (P := Try.prog) w t e i _ ht hi h1 .i64 .i64 (n : Int) (n : Int) (by omega) (Int.le_refl _) (by rw [h3]; omega) (by omega)
  rw [h2] at hr
  simp only [Int.toNat_natCast] at hr
  rw [show (Value.agg #[.int .i32 0, .float .f32 0]).cells = #[.int .i32 0, .float .f32 0] from rfl, made_two] at hr
  exact hr

theorem Row2.made (w : World) (t : TypeId) (l : List It) : Row2 (w.alloc (.cells (cellsOf l).toArray t)) w.heap.size t l := heap_alloc_new w _

set_option maxRecDepth 100000 in
set_option maxHeartbeats 400000 in
theorem toResults_any (a : Option Addr) (len cap : Nat) (l : List It) (w : World) (hl : len ≤ 1048576) (h : Hid (Items w a len l)) :
    Calls Try.prog 16 #[.slice a len cap] w fun e w' => e = .returned (.slice (some ⟨w.heap.size, 0, none⟩) len len) ∧ Row2 w' w.heap.size 32 l ∧ Below w.heap.size w w' := by
  have hmk := make_two 33 32 Try.underlying33 Try.info32 len hl
  have HLn : Hid (l.length = len) := h.out.1
  go_enter Try.func16, Try.ntmps16
  go_wp2
  go_loopw [4] (fun i wr => ∃ (k : Nat) (L : List It), k ≤ len ∧ i = .int .i64 k ∧ Hid (L.length = len) ∧ Hid (Row2 wr w.heap.size 32 L) ∧ Hid (∀ j, j < k → L[j]? = l[j]?) ∧ Hid (Below w.heap.size w wr)) (fun i _ => len - (intOf i).toNat)
  case atStart => exact ⟨0, _, Nat.zero_le _, rfl, by show (List.replicate len z0).length = len; simp, Row2.made w 32 _, fun j hj => by omega, (Below.refl _ _).alloc (Nat.le_refl _) _⟩
  case round =>
    obtain ⟨k, L, hk, rfl, hLl, hrow, hL, hbel⟩ := hrel
    by_cases hlt : k < len
    · obtain ⟨b, off, x, rfl, hb, hgx, hc0, hc1⟩ := h.out.at hlt
      have hc0' : wr.cell? ⟨b, off + k * 2, none⟩ = some (.int .i32 x.id) := by rw [hbel.out.cell (by exact hb)]; exact hc0
      have hc1' : wr.cell? ⟨b, off + k * 2 + 1, none⟩ = some (.float .f32 x.sim) := by rw [hbel.out.cell (by exact hb)]; exact hc1
      obtain ⟨y, hy⟩ : ∃ y, L[k]? = some y := ⟨_, List.getElem?_eq_getElem (by rw [hLl.out]; exact hlt)⟩
      obtain ⟨d0, d1, f0, f1⟩ := hrow.out.at hy
      have i1 : (k : Int) < (len : Int) := by omega
      have HX : Hid (l[k]? = some x) := hgx
      clear hgx hc0 hc1 hy
      go_wp2
      go_region
      go_wp2
      go_roundw
      case rel =>
        refine ⟨k + 1, L.set k x, by omega, by go_num, by show _ = _; rw [List.length_set]; exact hLl.out, (hrow.out.put k x : Row2 _ _ _ _), fun j hj => ?_, ((hbel.out.setCell (Nat.le_refl _) _).setCell (Nat.le_refl _) _).drew⟩
        rw [List.getElem?_set]
        by_cases e : k = j
        · subst e; rw [if_pos rfl, if_pos (by rw [hLl.out]; exact hlt), HX.out]
        · rw [if_neg e]; exact hL.out j (by omega)
      case measure => simp [intOf]; omega
    · obtain rfl : k = len := by omega
      go_wp2
      go_ret
      refine ⟨rfl, ?_, hbel.out⟩
      have : L = l := by
        apply List.ext_getElem?
        intro j
        by_cases hj : j < k
        · exact hL.out j hj
        · rw [List.getElem?_eq_none (by rw [hLl.out]; omega), List.getElem?_eq_none (by rw [HLn.out]; omega)]
      rw [← this]
      exact hrow.out

set_option maxHeartbeats 400000 in
theorem newHeap_any (v : Value) (a : Option Addr) (n c : Nat) (hv : v = .slice a n c) (worst : Bool) (w : World) :
    Calls Try.prog 8 #[v, .bool worst] w fun e w' => e = .returned (.pointer (some ⟨w.heap.size, 0, none⟩)) ∧ w' = w.alloc (.cells #[v, .bool worst] 45) := by
  subst hv
  go_enter Try.func8, Try.ntmps8
  go_wp2
  go_ret
  exact ⟨rfl, rfl⟩

set_option maxHeartbeats 400000 in
theorem pushShim_any (B hb : Nat) (v : Value) (worst : Bool) (l : List It) (r : It) (w : World) (h : Hid (HeapAt w B hb v worst l)) (hB : B ≤ w.heap.size) (hn : l.length ≤ 8192) :
    Calls Try.prog 9 #[.pointer (some ⟨hb, 0, none⟩), .agg #[.int .i32 r.id, .float .f32 r.sim]] w (Pushed w B hb v worst (pushL worst l r)) := by
  have hh : ∀ O, HeapAt (w.alloc O) B hb v worst l := fun O => h.out.below ((Below.refl _ _).alloc (Nat.le_refl _) _)
  have HH : Hid (∀ O, HeapAt (w.alloc O) B hb v worst l) := hh
  clear hh
  go_enter Try.func9, Try.ntmps9
  go_wp2_with fail
  refine (push_any B hb v worst l r _ (HH.out _) (by simp; omega) hn).mono ?_
  rintro e w1 ⟨rfl, v', h1, h2⟩
  go_wp2_with fail
  go_end0
  exact ⟨rfl, v', h1, (Moved.of_below hb v ((Below.refl _ _).alloc (Nat.le_refl _) _)).trans h2⟩

end Go.Proofs.Qxb6617404a

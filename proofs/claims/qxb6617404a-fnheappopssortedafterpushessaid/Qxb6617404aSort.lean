/-
  THE PLAIN LAW of the pops in order: the pops, the insertion sort, the two beside each other.
-/
import Derived.Test.Qxb6617404aShims
namespace Go.Proofs.Qxb6617404a
open Go.RowKit

/-- k pops taken into P, L left in the heap. -/
def Pops (worst : Bool) (l : List It) (k : Nat) (P L : List It) : Prop :=
  P.length = l.length ∧ (P.take k ++ L).Perm l ∧ (P.take k).Pairwise (fun x y => kk worst x ≤ kk worst y) ∧ (∀ x ∈ P.take k, ∀ y ∈ L, kk worst x ≤ kk worst y) ∧ Heap worst L

theorem take_set_succ {P : List It} {k : Nat} {x : It} (h : k < P.length) : (P.set k x).take (k + 1) = P.take k ++ [x] := by
  apply List.ext_getElem?
  intro j
  rw [List.getElem?_take]
  by_cases h1 : j < k + 1
  · rw [if_pos h1, List.getElem?_set]
    by_cases h2 : k = j
    · subst h2
      rw [if_pos rfl, if_pos h, List.getElem?_append_right (by simp; omega)]
      simp [Nat.min_eq_left (Nat.le_of_lt h)]
    · rw [if_neg h2, List.getElem?_append_left (by simp; omega), List.getElem?_take, if_pos (by omega)]
  · rw [if_neg h1, List.getElem?_eq_none (by simp; omega)]

theorem pops_start {worst : Bool} {l P L : List It} (hP : P.length = l.length) (hL : L.Perm l) (hh : Heap worst L) : Pops worst l 0 P L :=
  ⟨hP, by simpa using hL, by simp, fun x hx => by simp at hx, hh⟩

theorem pops_step {worst : Bool} {l P L : List It} {k n : Nat} {x z : It} (hok : Ok l) (h : Pops worst l k P L) (hk : k < l.length) (hL : L.length = n + 1) (hx : L[0]? = some x) (hz : L[n]? = some z) : Pops worst l (k + 1) (P.set k x) (popL worst L) := by
  obtain ⟨h1, h2, h3, h4, h5⟩ := h
  have hp := pop_perm worst hL hx hz
  have hokL : Ok L := fun y hy => hok y (h2.mem_iff.1 (List.mem_append_right _ hy))
  have hxm : x ∈ L := List.mem_of_getElem? hx
  have hmem : ∀ y ∈ popL worst L, y ∈ L := fun y hy => hp.mem_iff.1 (List.mem_cons_of_mem _ hy)
  have hfst : ∀ y ∈ L, kk worst x ≤ kk worst y := fun y hy => by
    obtain ⟨i, hi, he⟩ := List.mem_iff_getElem.1 hy
    exact heap_first worst L h5 x hx i y (by rw [← he]; exact List.getElem?_eq_getElem hi)
  refine ⟨by rw [List.length_set]; exact h1, ?_, ?_, ?_, pop_heap worst hokL hL hx hz h5⟩
  · rw [take_set_succ (by omega), List.append_assoc]
    exact (hp.append_left _).trans h2
  · rw [take_set_succ (by omega)]
    refine List.pairwise_append.2 ⟨h3, by simp, fun a ha b hb => ?_⟩
    simp at hb
    subst hb
    exact h4 a ha b hxm
  · rw [take_set_succ (by omega)]
    intro a ha y hy
    rcases List.mem_append.1 ha with h6 | h6
    · exact h4 a h6 y (hmem y hy)
    · simp at h6; subst h6; exact hfst y (hmem y hy)

/-- The first k stand in order. -/
def SortedTo (worst : Bool) (k : Nat) (F : List It) : Prop := ∀ (a b : Nat) x y, a < b → b < k → F[a]? = some x → F[b]? = some y → kk worst x ≤ kk worst y

/-- Within the insertion of x, the hole at j. -/
def Hole (worst : Bool) (l : List It) (k j : Nat) (x : It) (G : List It) : Prop :=
  G.length = l.length ∧ (G.set j x).Perm l ∧ (∀ (a b : Nat) u v, a < b → b ≤ k → a ≠ j → b ≠ j → G[a]? = some u → G[b]? = some v → kk worst u ≤ kk worst v) ∧ (∀ (b : Nat) v, j < b → b ≤ k → G[b]? = some v → kk worst x < kk worst v)

theorem set_self {F : List It} {k : Nat} {x : It} (h : F[k]? = some x) : F.set k x = F := by
  apply List.ext_getElem?
  intro j
  rw [List.getElem?_set]
  by_cases e : k = j
  · subst e; rw [if_pos rfl, if_pos (get_lt h), h]
  · rw [if_neg e]

theorem hole_start {worst : Bool} {l F : List It} {k : Nat} {x : It} (h1 : F.length = l.length) (h2 : F.Perm l) (h3 : SortedTo worst k F) (hx : F[k]? = some x) : Hole worst l k k x F :=
  ⟨h1, by rw [set_self hx]; exact h2, fun a b u v hab hb ha hb' hu hv => h3 a b u v hab (by omega) hu hv, fun b v hb hb' => by omega⟩

theorem hole_step {worst : Bool} {l G : List It} {k j : Nat} {x y : It} (h : Hole worst l k (j + 1) x G) (hj : j + 1 < l.length) (hjk : j + 1 ≤ k) (hy : G[j]? = some y) (hlt : kk worst x < kk worst y) : Hole worst l k j x (G.set (j + 1) y) := by
  obtain ⟨h1, h2, h3, h4⟩ := h
  have hg : ∀ (b : Nat) v, (G.set (j + 1) y)[b]? = some v → (b = j + 1 ∧ v = y) ∨ (b ≠ j + 1 ∧ G[b]? = some v) := fun b v hv => by
    rw [List.getElem?_set] at hv
    by_cases e : j + 1 = b
    · subst e; rw [if_pos rfl, if_pos (by omega)] at hv; exact .inl ⟨rfl, (Option.some.inj hv).symm⟩
    · rw [if_neg e] at hv; exact .inr ⟨fun h => e h.symm, hv⟩
  refine ⟨by rw [List.length_set]; exact h1, ?_, ?_, ?_⟩
  · refine List.Perm.trans ?_ h2
    have e1 : (G.set (j + 1) x)[j]? = some y := by rw [List.getElem?_set, if_neg (by omega)]; exact hy
    have e2 : (G.set (j + 1) x)[j + 1]? = some x := by rw [List.getElem?_set, if_pos rfl, if_pos (by omega)]
    have := swp_perm (G.set (j + 1) x) (j + 1) j
    rw [swp_eq e2 e1] at this
    simpa using this
  · intro a b u v hab hb ha hb' hu hv
    rcases hg a u hu with ⟨e1, e2⟩ | ⟨e1, e2⟩
    · rcases hg b v hv with ⟨e3, e4⟩ | ⟨e3, e4⟩
      · omega
      · subst e2
        exact h3 j b u v (by omega) hb (by omega) e3 hy e4
    · rcases hg b v hv with ⟨e3, e4⟩ | ⟨e3, e4⟩
      · subst e4
        exact h3 a j u v (by omega) (by omega) e1 (by omega) e2 hy
      · exact h3 a b u v hab hb e1 e3 e2 e4
  · intro b v hb hb' hv
    rcases hg b v hv with ⟨e3, e4⟩ | ⟨e3, e4⟩
    · subst e4; exact hlt
    · exact h4 b v (by omega) hb' e4

theorem hole_end {worst : Bool} {l G : List It} {k j : Nat} {x : It} (h : Hole worst l k j x G) (hjk : j ≤ k) (hstop : ∀ (i : Nat) y, i + 1 = j → G[i]? = some y → kk worst y ≤ kk worst x) :
    (G.set j x).length = l.length ∧ (G.set j x).Perm l ∧ SortedTo worst (k + 1) (G.set j x) := by
  obtain ⟨h1, h2, h3, h4⟩ := h
  refine ⟨by rw [List.length_set]; exact h1, h2, ?_⟩
  intro a b u v hab hb hu hv
  have hg : ∀ (b : Nat) v, (G.set j x)[b]? = some v → (b = j ∧ v = x) ∨ (b ≠ j ∧ G[b]? = some v) := fun b v hv => by
    have hlt := get_lt hv
    rw [List.length_set] at hlt
    rw [List.getElem?_set] at hv
    by_cases e : j = b
    · subst e; rw [if_pos rfl, if_pos hlt] at hv; exact .inl ⟨rfl, (Option.some.inj hv).symm⟩
    · rw [if_neg e] at hv; exact .inr ⟨fun h => e h.symm, hv⟩
  rcases hg a u hu with ⟨e1, e2⟩ | ⟨e1, e2⟩
  · rcases hg b v hv with ⟨e3, e4⟩ | ⟨e3, e4⟩
    · omega
    · subst e2; exact Int.le_of_lt (h4 b v (by omega) (by omega) e4)
  · rcases hg b v hv with ⟨e3, e4⟩ | ⟨e3, e4⟩
    · subst e4 e3
      obtain ⟨i, rfl⟩ : ∃ i, b = i + 1 := ⟨b - 1, by omega⟩
      have hil : i < G.length := by have := get_lt hv; rw [List.length_set] at this; omega
      obtain ⟨y, hy⟩ : ∃ y, G[i]? = some y := ⟨_, List.getElem?_eq_getElem hil⟩
      have hyx := hstop i y rfl hy
      by_cases e : a = i
      · subst e; rw [← Option.some.inj (hy.symm.trans e2)]; exact hyx
      · exact Int.le_trans (h3 a i u y (by omega) (by omega) (by omega) (by omega) e2 hy) hyx
    · exact h3 a b u v hab (by omega) e1 e3 e2 e4

theorem sorted_pairwise {worst : Bool} {F : List It} (h : SortedTo worst F.length F) : (F.map (kk worst)).Pairwise (· ≤ ·) := by
  rw [List.pairwise_map, List.pairwise_iff_getElem]
  intro i j hi hj hij
  exact h i j _ _ hij hj (List.getElem?_eq_getElem hi) (List.getElem?_eq_getElem hj)

/-- Two ordered rows of the same items hold the same keys. -/
theorem same_keys {worst : Bool} {l P F : List It} (h : Pops worst l l.length P []) (h2 : F.Perm l) (h3 : SortedTo worst l.length F) : P.Perm l ∧ P.map (kk worst) = F.map (kk worst) := by
  obtain ⟨g1, g2, g3, _, _⟩ := h
  rw [List.take_of_length_le (by omega), List.append_nil] at g2
  rw [List.take_of_length_le (by omega)] at g3
  refine ⟨g2, ?_⟩
  have hp : (P.map (kk worst)).Perm (F.map (kk worst)) := (g2.trans h2.symm).map _
  refine List.Perm.eq_of_pairwise (le := fun a b : Int => a ≤ b) (fun a b _ _ h1 h2 => Int.le_antisymm h1 h2) (by rw [List.pairwise_map]; exact g3) (sorted_pairwise (by rw [h2.length_eq]; exact h3)) hp

def simCells (F : List It) : Array Value := (F.map fun x => Value.float .f32 x.sim).toArray

/-- Block g holds just the similarities of F. -/
def Row1 (w : World) (g : Nat) (F : List It) : Prop := w.heap[g]? = some (.cells (F.map fun x => Value.float .f32 x.sim).toArray 28 (0, 0))

theorem Row1.lt {w : World} {g : Nat} {l : List It} (h : Row1 w g l) : g < w.heap.size := by
  rcases Nat.lt_or_ge g w.heap.size with h1 | h1
  · exact h1
  · unfold Row1 at h; rw [Array.getElem?_eq_none h1] at h; cases h

theorem Row1.at {w : World} {g : Nat} {l : List It} (h : Row1 w g l) {i : Nat} {x : It} (hx : l[i]? = some x) :
    w.cell? ⟨g, i, none⟩ = some (.float .f32 x.sim) ∧ w.frozen? ⟨g, i, none⟩ = false := by
  unfold Row1 at h
  simp [World.cell?, World.frozen?, h, hx]

theorem Row1.put {w : World} {g : Nat} {l : List It} (h : Row1 w g l) (i : Nat) (z : It) :
    Row1 (w.setCell ⟨g, i, none⟩ (.float .f32 z.sim)) g (l.set i z) := by
  unfold Row1 at h ⊢
  rw [heap_setCell_same _ _ _ _ _ _ h, List.map_set]
  simp

theorem Row1.kept {w w' : World} {g : Nat} {l : List It} (h : Row1 w g l) (hb : w'.heap[g]? = w.heap[g]?) : Row1 w' g l := hb.trans h

theorem Try.info28 : (Try.prog.info? 28).map (fun i => (i.zero, i.size, i.bytes)) = some (some (.float .f32 0), 1, 4) := by kernel_rfl

theorem made_one (n : Nat) : madeCells #[.float .f32 0] (n * 1) = ((List.replicate n z0).map fun x => Value.float .f32 x.sim).toArray := by
  apply Array.toList_inj.1
  apply List.ext_getElem?
  intro j
  by_cases hj : j < n
  · simp [madeCells, hj, z0, Nat.mod_one]
  · rw [List.getElem?_eq_none (by simp [size_madeCells]; omega), List.getElem?_eq_none (by simp; omega)]

/-- 'make([]float32, n)' -/
theorem make_one (n : Nat) (hn : n ≤ 1048576) (w : World) :
    (Instr.makeSlice 36 (.int .i64 (n : Int)) (.int .i64 (n : Int))).run Try.prog w = .ok (.slice (some ⟨w.heap.size, 0, none⟩) n n) (w.alloc (.cells (simCells (List.replicate n z0)) 28)) := by
  obtain ⟨i, hi, hzz⟩ := Option.map_eq_some_iff.1 Try.info28
  simp only [Prod.mk.injEq] at hzz
  obtain ⟨h1, h2, h3⟩ := hzz
  have hr := run_make (P := Try.prog) w 36 28 i _ Try.underlying36 hi h1 .i64 .i64 (n : Int) (n : Int) (by omega) (Int.le_refl _) (by rw [h3]; omega) (by omega)
  rw [h2] at hr
  simp only [Int.toNat_natCast] at hr
  rw [show (Value.float .f32 0).cells = #[.float .f32 0] from rfl, made_one] at hr
  exact hr

theorem Row1.made (w : World) (l : List It) : Row1 (w.alloc (.cells (simCells l) 28)) w.heap.size l := heap_alloc_new w _

/-- An empty heap. -/
theorem heap_empty (w : World) (worst : Bool) : HeapAt (w.alloc (.cells #[.slice none 0 0, .bool worst] 45)) w.heap.size w.heap.size (.slice none 0 0) worst [] :=
  ⟨heap_alloc_new w _, ⟨rfl, .inl ⟨rfl, rfl⟩⟩, fun e => by cases e⟩

end Go.Proofs.Qxb6617404a

/-
  THE HEAP IN MEMORY; the comparison; the small functions round it.
-/
import Derived.Test.Qxb6617404aRows
import Derived.WalkKit
import Derived.WalkSpells
import Derived.WalkLawsBesides
import Derived.Deep.QuietTactic
import Derived.BigQuiet
import Derived.Deep.OwnRows
import Derived.Deep.RegionHeld3
import Derived.Deep.DrawnRows
import Derived.Deep.AppendLies
import Derived.Laws.Pointers
namespace Go.Proofs.Qxb6617404a
open Go.RowKit

theorem Try.info32 : (Try.prog.info? 32).map (fun i => (i.zero, i.size, i.bytes)) = some (some (.agg #[.int .i32 0, .float .f32 0]), 2, 8) := by kernel_rfl

/-- The law that the kit lacks: a float stored into a cell. -/
theorem run_store_float {P : Program} {w : World} {a : Addr} {m : Mode} (k : FloatKind) (n : Nat) : (store a (.float k n) m).run P w = stored P w a (.float k n) m := run_store P w a _ m rfl

/-- One result: its id and the bits of its similarity. -/
structure It where
  id : Int
  sim : Nat

/-- x goes before y. -/
def bf (worst : Bool) (x y : Nat) : Bool := if worst then Ieee.single.order x y == some .lt else Ieee.single.order x y == some .gt

def itCells (x : It) : List Value := [.int .i32 x.id, .float .f32 x.sim]
def cellsOf (l : List It) : List Value := l.flatMap itCells

theorem cellsOf_length (l : List It) : (cellsOf l).length = l.length * 2 := by
  induction l with
  | nil => rfl
  | cons x l ih => simp only [cellsOf, List.flatMap_cons, List.length_append, List.length_cons] at ih ⊢; rw [ih]; simp [itCells]; omega

theorem cellsOf_append (l r : List It) : cellsOf (l ++ r) = cellsOf l ++ cellsOf r := by simp [cellsOf]

theorem cellsOf_get (l : List It) (i : Nat) (x : It) (h : l[i]? = some x) : (cellsOf l)[i * 2]? = some (.int .i32 x.id) ∧ (cellsOf l)[i * 2 + 1]? = some (.float .f32 x.sim) := by
  induction l generalizing i with
  | nil => simp at h
  | cons y l ih =>
    cases i with
    | zero => simp at h; subst h; simp [cellsOf, itCells]
    | succ i =>
      simp at h
      have := ih i h
      have e1 : (i + 1) * 2 = i * 2 + 2 := by omega
      have e2 : (i + 1) * 2 + 1 = i * 2 + 1 + 2 := by omega
      rw [e2, e1]
      simpa [cellsOf, itCells] using this

set_option maxHeartbeats 400000 in
/-- hbBefore -/
theorem hbBefore_any (worst : Bool) (x y : Nat) (w : World) :
    Calls Try.prog 12 #[.bool worst, .float .f32 x, .float .f32 y] w fun e w' => e = .returned (.bool (bf worst x y)) ∧ w' = w := by
  cases worst with
  | true =>
    go_enter Try.func12, Try.ntmps12
    go_wp2
    go_ret
    exact ⟨rfl, rfl⟩
  | false =>
    go_enter Try.func12, Try.ntmps12
    go_wp2
    go_ret
    exact ⟨rfl, rfl⟩

set_option maxHeartbeats 400000 in
/-- (heap).before -/
theorem before_any (hb : Nat) (worst : Bool) (a b : It) (w : World) (hc : w.cell? ⟨hb, 1, none⟩ = some (.bool worst)) :
    Calls Try.prog 23 #[.pointer (some ⟨hb, 0, none⟩), .agg #[.int .i32 a.id, .float .f32 a.sim], .agg #[.int .i32 b.id, .float .f32 b.sim]] w fun e w' => e = .returned (.bool (bf worst a.sim b.sim)) ∧ Below w.heap.size w w' := by
  have hlt : hb < w.heap.size := World.block_lt_of_cell? _ _ hc
  cases worst with
  | true =>
    go_enter Try.func23, Try.ntmps23
    go_wp2
    go_ret
    exact ⟨rfl, ((Below.refl _ _).alloc (Nat.le_refl _) _).alloc (by simp) _⟩
  | false =>
    go_enter Try.func23, Try.ntmps23
    go_wp2
    go_ret
    exact ⟨rfl, ((Below.refl _ _).alloc (Nat.le_refl _) _).alloc (by simp) _⟩

end Go.Proofs.Qxb6617404a

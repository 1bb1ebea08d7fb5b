/-
  The way down: the plain functions.
-/
import Derived.Test.Qxb6617404aPush
namespace Go.Proofs.Qxb6617404a

/-- Does place j hold something that goes before what place i holds? -/
def lt (worst : Bool) (l : List It) (j i : Nat) : Bool :=
  match l[j]?, l[i]? with
  | some a, some b => bf worst a.sim b.sim
  | _, _ => false

/-- The first of place i and its two children. -/
def top1 (worst : Bool) (l : List It) (i : Nat) : Nat := if lt worst l (2 * i + 1) i then 2 * i + 1 else i
def top2 (worst : Bool) (l : List It) (i : Nat) : Nat := if lt worst l (2 * i + 2) (top1 worst l i) then 2 * i + 2 else top1 worst l i

/-- The way down: from place i on, f steps at most. -/
def down (worst : Bool) : Nat → List It → Nat → List It
  | 0, l, _ => l
  | f + 1, l, i => if top2 worst l i = i then l else down worst f (swp l i (top2 worst l i)) (top2 worst l i)

/-- The last item put first, the row one shorter. -/
def moveL (l : List It) : List It :=
  match l[l.length - 1]? with
  | some z => (l.set 0 z).take (l.length - 1)
  | none => l

/-- What pop makes of the items. -/
def popL (worst : Bool) (l : List It) : List It := down worst l.length (moveL l) 0

theorem lt_true {worst : Bool} {l : List It} {j i : Nat} (h : lt worst l j i = true) : j < l.length ∧ i < l.length := by
  unfold lt at h
  split at h
  · rename_i a b h1 h2
    constructor
    · rcases Nat.lt_or_ge j l.length with h3 | h3
      · exact h3
      · rw [List.getElem?_eq_none h3] at h1; cases h1
    · rcases Nat.lt_or_ge i l.length with h3 | h3
      · exact h3
      · rw [List.getElem?_eq_none h3] at h2; cases h2
  · cases h

theorem down_stop {worst : Bool} {f i : Nat} {l : List It} (h : top2 worst l i = i) : down worst f l i = l := by
  cases f with
  | zero => rfl
  | succ f => simp [down, h]

theorem down_go {worst : Bool} {f i t : Nat} {l : List It} (h : top2 worst l i = t) (hne : t ≠ i) : down worst (f + 1) l i = down worst f (swp l i t) t := by
  subst h
  simp only [down]
  rw [if_neg hne]

theorem moveL_eq {l : List It} {n : Nat} {z : It} (hl : l.length = n + 1) (hz : l[n]? = some z) : moveL l = (l.set 0 z).take n := by
  unfold moveL
  rw [hl, Nat.add_sub_cancel, hz]

end Go.Proofs.Qxb6617404a

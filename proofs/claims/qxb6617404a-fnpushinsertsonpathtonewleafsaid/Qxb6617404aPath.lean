/-
  THE PLAIN LAW of the push along the path to the new leaf.
-/
import Derived.Test.Qxb6617404aShims
namespace Go.Proofs.Qxb6617404a
open Go.RowKit

/-- The slot's parent. -/
def anc (p : Nat) : Nat := (p - 1) / 2

/-- How many steps up to the root, within the fuel. -/
def depF : Nat → Nat → Nat
  | 0, _ => 0
  | f + 1, p => if p = 0 then 0 else depF f (anc p) + 1

/-- How many steps up to the root. -/
def dep (p : Nat) : Nat := depF p p

theorem depF_zero (f : Nat) : depF f 0 = 0 := by cases f <;> simp [depF]

theorem depF_fuel : ∀ (f g p : Nat), p ≤ f → p ≤ g → depF f p = depF g p
  | 0, g, p, hf, _ => by
    obtain rfl : p = 0 := by omega
    rw [depF_zero, depF_zero]
  | f + 1, 0, p, _, hg => by
    obtain rfl : p = 0 := by omega
    rw [depF_zero, depF_zero]
  | f + 1, g + 1, p, hf, hg => by
    simp only [depF]
    by_cases h : p = 0
    · rw [if_pos h, if_pos h]
    · rw [if_neg h, if_neg h, depF_fuel f g (anc p) (by unfold anc; omega) (by unfold anc; omega)]

theorem dep_zero : dep 0 = 0 := rfl
theorem dep_pos {p : Nat} (h : 0 < p) : dep p = dep (anc p) + 1 := by
  unfold dep
  obtain ⟨q, rfl⟩ : ∃ q, p = q + 1 := ⟨p - 1, by omega⟩
  show (if q + 1 = 0 then 0 else depF q (anc (q + 1)) + 1) = _
  rw [if_neg (by omega), depF_fuel q (anc (q + 1)) (anc (q + 1)) (by unfold anc; omega) (Nat.le_refl _)]

theorem anc_lt {p : Nat} (h : 0 < p) : anc p < p := by unfold anc; omega

theorem dep_le (p : Nat) : dep p ≤ p := by
  induction p using Nat.strongRecOn with
  | _ p ih =>
    rcases Nat.eq_zero_or_pos p with h | h
    · subst h; rw [dep_zero]; omega
    · rw [dep_pos h]
      have := ih _ (anc_lt h)
      have := anc_lt h
      omega

theorem dep_eq_zero {p : Nat} (h : dep p = 0) : p = 0 := by
  rcases Nat.eq_zero_or_pos p with h1 | h1
  · exact h1
  · rw [dep_pos h1] at h; omega

/-- t steps up. -/
def ups : Nat → Nat → Nat
  | 0, p => p
  | t + 1, p => anc (ups t p)

theorem dep_ups (n : Nat) : ∀ t, t ≤ dep n → dep (ups t n) = dep n - t
  | 0, _ => by simp [ups]
  | t + 1, h => by
    have ih := dep_ups n t (by omega)
    have hp : 0 < ups t n := by
      rcases Nat.eq_zero_or_pos (ups t n) with h1 | h1
      · rw [h1, dep_zero] at ih; omega
      · exact h1
    rw [dep_pos hp] at ih
    show dep (anc (ups t n)) = _
    omega

theorem ups_le (n : Nat) : ∀ t, ups t n ≤ n
  | 0 => Nat.le_refl _
  | t + 1 => by
    have := ups_le n t
    show anc (ups t n) ≤ n
    unfold anc
    omega

/-- The path: its slot at depth j. -/
def pa (n j : Nat) : Nat := ups (dep n - j) n

theorem pa_last (n : Nat) : pa n (dep n) = n := by simp [pa, ups]
theorem pa_le (n j : Nat) : pa n j ≤ n := ups_le n _
theorem dep_pa {n j : Nat} (h : j ≤ dep n) : dep (pa n j) = j := by
  unfold pa
  rw [dep_ups n _ (by omega)]
  omega
theorem pa_zero (n : Nat) : pa n 0 = 0 := dep_eq_zero (dep_pa (Nat.zero_le _))
theorem pa_pos {n j : Nat} (h : j + 1 ≤ dep n) : 0 < pa n (j + 1) := by
  rcases Nat.eq_zero_or_pos (pa n (j + 1)) with h1 | h1
  · have := dep_pa h; rw [h1, dep_zero] at this; omega
  · exact h1
theorem pa_up {n j : Nat} (h : j + 1 ≤ dep n) : pa n j = anc (pa n (j + 1)) := by
  unfold pa
  obtain ⟨t, ht⟩ : ∃ t, dep n - (j + 1) = t := ⟨_, rfl⟩
  rw [ht, show dep n - j = t + 1 from by omega]
  rfl
theorem pa_ne {n i j : Nat} (hi : i ≤ dep n) (hj : j ≤ dep n) (h : i ≠ j) : pa n i ≠ pa n j := fun e => h (by rw [← dep_pa hi, ← dep_pa hj, e])
theorem pa_lt {n j : Nat} (h : j < dep n) : pa n j < n := by
  have h1 := pa_le n j
  have h2 : pa n j ≠ n := fun e => pa_ne (Nat.le_of_lt h) (Nat.le_refl _) (Nat.ne_of_lt h) (e.trans (pa_last n).symm)
  omega
theorem pa_of_dep {n p j : Nat} (hj : j + 1 ≤ dep n) (h : p = pa n (j + 1)) : anc p = pa n j := by rw [h, pa_up hj]

/-- Down the path the keys do not fall. -/
theorem path_mono {worst : Bool} {l : List It} (hh : Heap worst l) {s : Nat} {x : It} (hx : l[pa l.length s]? = some x) : ∀ (t : Nat) y, s + t < dep l.length → l[pa l.length (s + t)]? = some y → kk worst x ≤ kk worst y
  | 0, y, _, hy => by rw [Nat.add_zero] at hy; rw [Option.some.inj (hx.symm.trans hy)]; exact Int.le_refl _
  | t + 1, y, h, hy => by
    have h1 : s + t < dep l.length := by omega
    obtain ⟨z, hz⟩ : ∃ z, l[pa l.length (s + t)]? = some z := ⟨_, List.getElem?_eq_getElem (pa_lt h1)⟩
    have h2 := path_mono hh hx t z h1 hz
    have h3 := hh (pa l.length (s + t + 1)) y z (pa_pos (by omega)) hy (by
      have := pa_up (n := l.length) (j := s + t) (by omega)
      unfold anc at this
      rw [← this]; exact hz)
    omega

/-- The want-list, the slots below depth j turned: what the push comes to when the new item goes into the slot at depth j and up from there. -/
def Along (worst : Bool) (l : List It) (r : It) (j : Nat) (G : List It) : Prop :=
  G.length = l.length + 1 ∧ (∃ f, pa l.length j ≤ f ∧ up worst f (G.set (pa l.length j) r) (pa l.length j) = pushL worst l r) ∧ (∀ t, t ≤ j → t < dep l.length → G[pa l.length t]? = l[pa l.length t]?)

theorem set_snoc (l : List It) (r : It) : (l ++ [r]).set l.length r = l ++ [r] := by
  rw [List.set_append_right _ _ (Nat.le_refl _)]; simp

theorem along_start (worst : Bool) (l : List It) (r : It) : Along worst l r (dep l.length) (l ++ [r]) := by
  refine ⟨by simp, ⟨l.length, by rw [pa_last]; omega, ?_⟩, fun t _ ht => ?_⟩
  · rw [pa_last, set_snoc]; rfl
  · rw [List.getElem?_append_left (pa_lt ht)]

theorem get_set_same {G : List It} {i : Nat} {x : It} (h : i < G.length) : (G.set i x)[i]? = some x := by simp [h]

theorem along_step {worst : Bool} {l : List It} {r y : It} {j : Nat} {G : List It} (h : Along worst l r (j + 1) G) (hj : j + 1 ≤ dep l.length) (hy : l[pa l.length j]? = some y) (hb : bf worst r.sim y.sim = true) : Along worst l r j (G.set (pa l.length (j + 1)) y) := by
  obtain ⟨h1, ⟨f, hf, hu⟩, h3⟩ := h
  have hle := pa_le l.length (j + 1)
  have hle0 := pa_le l.length j
  have hpos := pa_pos hj
  have hup : pa l.length j = (pa l.length (j + 1) - 1) / 2 := pa_up hj
  have hne : pa l.length (j + 1) ≠ pa l.length j := pa_ne hj (by omega) (by omega)
  have hx : (G.set (pa l.length (j + 1)) r)[pa l.length (j + 1)]? = some r := get_set_same (by omega)
  have hGy : G[pa l.length j]? = some y := (h3 j (by omega) (by omega)).trans hy
  have hy2 : (G.set (pa l.length (j + 1)) r)[pa l.length j]? = some y := by rw [List.getElem?_set, if_neg hne]; exact hGy
  obtain ⟨f', rfl⟩ : ∃ f', f = f' + 1 := ⟨f - 1, by omega⟩
  rw [up_go hpos hup hx hy2 hb, swp_eq hx hy2] at hu
  refine ⟨by rw [List.length_set]; exact h1, ⟨f', by omega, ?_⟩, fun t ht htd => ?_⟩
  · rw [List.set_set] at hu; exact hu
  · rw [List.getElem?_set, if_neg (pa_ne hj (by omega) (by omega))]
    exact h3 t (by omega) htd

theorem along_end {worst : Bool} {l : List It} {r : It} {k : Nat} {G : List It} (h : Along worst l r k G) (hk : k ≤ dep l.length) (hs : ∀ j y, j + 1 = k → l[pa l.length j]? = some y → bf worst r.sim y.sim = false) : G.set (pa l.length k) r = pushL worst l r := by
  obtain ⟨h1, ⟨f, hf, hu⟩, h3⟩ := h
  rw [← hu]
  cases k with
  | zero => rw [pa_zero, up_zero]
  | succ j =>
    have hle := pa_le l.length (j + 1)
    have hne : pa l.length (j + 1) ≠ pa l.length j := pa_ne hk (by omega) (by omega)
    obtain ⟨y, hy⟩ : ∃ y, l[pa l.length j]? = some y := ⟨_, List.getElem?_eq_getElem (pa_lt (by omega))⟩
    have hGy : G[pa l.length j]? = some y := (h3 j (by omega) (by omega)).trans hy
    exact (up_stop (pa_up hk) (get_set_same (by omega)) (by rw [List.getElem?_set, if_neg hne]; exact hGy) (hs j y rfl hy)).symm

theorem HeapAt.owned_ge {w : World} {B hb : Nat} {v : Value} {worst : Bool} {l : List It} (h : HeapAt w B hb v worst l) (g : Nat) (e : v.ownBlock = some g) : B ≤ g := by
  rcases h.own.2 with ⟨hv, _⟩ | ⟨q, cap, cur, hv, hB, _⟩
  · rw [hv] at e; cases e
  · rw [hv] at e; cases e; exact hB

theorem Try.info30 : (Try.prog.info? 30).map (fun i => (i.zero, i.size, i.bytes)) = some (some (.agg #[.int .i32 0, .float .f32 0]), 2, 8) := by kernel_rfl
theorem Try.info3 : (Try.prog.info? 3).map (fun i => (i.zero, i.size, i.bytes)) = some (some (.int .i64 0), 1, 8) := by kernel_rfl

end Go.Proofs.Qxb6617404a

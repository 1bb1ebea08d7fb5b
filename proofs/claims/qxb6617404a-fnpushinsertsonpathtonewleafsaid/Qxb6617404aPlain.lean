/-
  THE PLAIN LAWS of the heap: no Go in sight.
-/
import Derived.Test.Qxb6617404aDown
import Derived.Test.Qxb6617404aFloat
namespace Go.Proofs.Qxb6617404a

/-- No NaN among them. -/
def Ok (l : List It) : Prop := ∀ x ∈ l, isNaN x.sim = false

/-- The key of an item. -/
def kk (worst : Bool) (x : It) : Int := key worst x.sim

def Heap (worst : Bool) (l : List It) : Prop := ∀ i x y, 0 < i → l[i]? = some x → l[(i - 1) / 2]? = some y → kk worst y ≤ kk worst x

theorem Ok.at {l : List It} (h : Ok l) {i : Nat} {x : It} (hx : l[i]? = some x) : isNaN x.sim = false := h x (List.mem_of_getElem? hx)

theorem get_lt {l : List It} {i : Nat} {x : It} (h : l[i]? = some x) : i < l.length := by
  rcases Nat.lt_or_ge i l.length with h1 | h1
  · exact h1
  · rw [List.getElem?_eq_none h1] at h; cases h

theorem swp_get {l : List It} {i j : Nat} {x y : It} (hx : l[i]? = some x) (hy : l[j]? = some y) (k : Nat) : (swp l i j)[k]? = if j = k then some x else if i = k then some y else l[k]? := by
  rw [swp_eq hx hy, List.getElem?_set, List.getElem?_set, List.length_set]
  have := get_lt hx
  have := get_lt hy
  by_cases h1 : j = k
  · rw [if_pos h1, if_pos (by omega), if_pos h1]
  · rw [if_neg h1, if_neg h1]
    by_cases h2 : i = k
    · rw [if_pos h2, if_pos (by omega), if_pos h2]
    · rw [if_neg h2, if_neg h2]

theorem swp_perm (l : List It) (i j : Nat) : (swp l i j).Perm l := by
  unfold swp
  split
  · rename_i x y h1 h2
    have a := get_lt h1
    have b := get_lt h2
    rw [List.getElem?_eq_getElem a] at h1
    rw [List.getElem?_eq_getElem b] at h2
    have := @List.set_set_perm It l i j a b
    rw [Option.some.inj h1, Option.some.inj h2] at this
    exact this
  · exact List.Perm.refl _

theorem up_perm (worst : Bool) (f : Nat) (l : List It) (i : Nat) : (up worst f l i).Perm l := by
  induction f generalizing l i with
  | zero => exact List.Perm.refl _
  | succ f ih =>
    simp only [up]
    split
    · exact List.Perm.refl _
    · split
      · split
        · exact (ih _ _).trans (swp_perm _ _ _)
        · exact List.Perm.refl _
      · exact List.Perm.refl _

theorem down_perm (worst : Bool) (f : Nat) (l : List It) (i : Nat) : (down worst f l i).Perm l := by
  induction f generalizing l i with
  | zero => exact List.Perm.refl _
  | succ f ih =>
    simp only [down]
    split
    · exact List.Perm.refl _
    · exact (ih _ _).trans (swp_perm _ _ _)

theorem Ok.perm {l r : List It} (h : Ok l) (p : r.Perm l) : Ok r := fun x hx => h x (p.mem_iff.1 hx)

theorem bf_kk (worst : Bool) {x y : It} (hx : isNaN x.sim = false) (hy : isNaN y.sim = false) : bf worst x.sim y.sim = decide (kk worst x < kk worst y) := bf_key worst _ _ hx hy

/-- A heap but for what place i holds. -/
def UpInv (worst : Bool) (l : List It) (i : Nat) : Prop :=
  (∀ j x y, 0 < j → j ≠ i → l[j]? = some x → l[(j - 1) / 2]? = some y → kk worst y ≤ kk worst x) ∧
  (∀ j x y, 0 < i → 0 < j → (j - 1) / 2 = i → l[j]? = some x → l[(i - 1) / 2]? = some y → kk worst y ≤ kk worst x)

theorem upInv_step {worst : Bool} {l : List It} {i : Nat} {x y : It} (hi : 0 < i) (h : UpInv worst l i) (hx : l[i]? = some x) (hy : l[(i - 1) / 2]? = some y) (hlt : kk worst x < kk worst y) : UpInv worst (swp l i ((i - 1) / 2)) ((i - 1) / 2) := by
  obtain ⟨h1, h2⟩ := h
  constructor
  · intro j a b hj hne ha hb
    rw [swp_get hx hy] at ha hb
    rw [if_neg (Ne.symm hne)] at ha
    by_cases hji : i = j
    · rw [if_pos hji] at ha
      subst hji
      rw [if_pos rfl] at hb
      cases ha; cases hb
      omega
    · rw [if_neg hji] at ha
      by_cases hq : (i - 1) / 2 = (j - 1) / 2
      · rw [if_pos hq] at hb
        cases hb
        have := h1 j a y hj (Ne.symm hji) ha (by rw [← hq]; exact hy)
        omega
      · rw [if_neg hq] at hb
        by_cases hq2 : i = (j - 1) / 2
        · rw [if_pos hq2] at hb
          cases hb
          exact h2 j a y hi hj hq2.symm ha hy
        · rw [if_neg hq2] at hb
          exact h1 j a b hj (Ne.symm hji) ha hb
  · intro j a b hp hj hjp ha hb
    rw [swp_get hx hy] at ha hb
    rw [if_neg (by omega), if_neg (by omega)] at hb
    have hpy := h1 _ y b hp (by omega) hy hb
    rw [if_neg (by omega)] at ha
    by_cases hji : i = j
    · rw [if_pos hji] at ha
      cases ha
      exact hpy
    · rw [if_neg hji] at ha
      have := h1 j a y hj (Ne.symm hji) ha (by rw [hjp]; exact hy)
      omega

theorem up_heap (worst : Bool) (f : Nat) (l : List It) (i : Nat) (hok : Ok l) (h : UpInv worst l i) (hi : i < l.length) (hf : i ≤ f) : Heap worst (up worst f l i) := by
  induction f generalizing l i with
  | zero =>
    obtain rfl : i = 0 := by omega
    intro j x y hj hx hy
    exact h.1 j x y hj (by omega) hx hy
  | succ f ih =>
    rcases Nat.eq_zero_or_pos i with h0 | h0
    · subst h0
      rw [up_zero]
      intro j x y hj hx hy
      exact h.1 j x y hj (by omega) hx hy
    · obtain ⟨x, hx⟩ : ∃ x, l[i]? = some x := ⟨_, List.getElem?_eq_getElem hi⟩
      obtain ⟨y, hy⟩ : ∃ y, l[(i - 1) / 2]? = some y := ⟨_, List.getElem?_eq_getElem (by omega)⟩
      have hb := bf_kk worst (hok.at hx) (hok.at hy)
      by_cases hlt : kk worst x < kk worst y
      · rw [decide_eq_true hlt] at hb
        rw [up_go h0 rfl hx hy hb]
        exact ih _ _ (hok.perm (swp_perm _ _ _)) (upInv_step h0 h hx hy hlt) (by rw [swp_length]; omega) (by omega)
      · rw [decide_eq_false hlt] at hb
        rw [up_stop rfl hx hy hb]
        intro j a b hj ha hb'
        by_cases hji : j = i
        · subst hji
          rw [hx] at ha; rw [hy] at hb'
          cases ha; cases hb'
          omega
        · exact h.1 j a b hj hji ha hb'

theorem push_perm (worst : Bool) (l : List It) (r : It) : (pushL worst l r).Perm (l ++ [r]) := up_perm _ _ _ _

theorem get_snoc_lt {l : List It} {r : It} {i : Nat} {x : It} (h : (l ++ [r])[i]? = some x) (hi : i ≠ l.length) : l[i]? = some x := by
  have := get_lt h
  rw [List.length_append, List.length_singleton] at this
  rwa [List.getElem?_append_left (by omega)] at h

theorem push_inv (worst : Bool) (l : List It) (r : It) (h : Heap worst l) : UpInv worst (l ++ [r]) l.length := by
  constructor
  · intro j x y hj hne hx hy
    have := get_lt hx
    rw [List.length_append, List.length_singleton] at this
    exact h j x y hj (get_snoc_lt hx hne) (get_snoc_lt hy (by omega))
  · intro j x y hi hj hji hx hy
    have := get_lt hx
    rw [List.length_append, List.length_singleton] at this
    omega

theorem push_heap (worst : Bool) (l : List It) (r : It) (hl : Ok l) (hr : isNaN r.sim = false) (h : Heap worst l) : Heap worst (pushL worst l r) := by
  have hok : Ok (l ++ [r]) := by
    intro x hx
    rw [List.mem_append, List.mem_singleton] at hx
    rcases hx with hx | rfl
    · exact hl x hx
    · exact hr
  exact up_heap worst _ _ _ hok (push_inv worst l r h) (by simp) (Nat.le_refl _)

theorem heap_nil (worst : Bool) : Heap worst [] := by
  intro i x y _ hx
  simp at hx

/-- No item of a heap goes before its first. -/
theorem heap_first (worst : Bool) (l : List It) (h : Heap worst l) (x : It) (hx : l[0]? = some x) : ∀ (i : Nat) y, l[i]? = some y → kk worst x ≤ kk worst y := by
  intro i
  induction i using Nat.strongRecOn with
  | _ i ih =>
    intro y hy
    rcases Nat.eq_zero_or_pos i with h0 | h0
    · subst h0; rw [hx] at hy; cases hy; exact Int.le_refl _
    · have := get_lt hy
      obtain ⟨z, hz⟩ : ∃ z, l[(i - 1) / 2]? = some z := ⟨_, List.getElem?_eq_getElem (by omega)⟩
      have h1 := ih ((i - 1) / 2) (by omega) z hz
      have h2 := h i y z h0 hy hz
      omega

/-! ### The way down -/

def DownInv (worst : Bool) (l : List It) (i : Nat) : Prop :=
  (∀ j x y, 0 < j → (j - 1) / 2 ≠ i → l[j]? = some x → l[(j - 1) / 2]? = some y → kk worst y ≤ kk worst x) ∧
  (∀ j x y, 0 < i → 0 < j → (j - 1) / 2 = i → l[j]? = some x → l[(i - 1) / 2]? = some y → kk worst y ≤ kk worst x)

theorem lt_kk {worst : Bool} {l : List It} (hok : Ok l) {j i : Nat} {x y : It} (hx : l[j]? = some x) (hy : l[i]? = some y) : lt worst l j i = decide (kk worst x < kk worst y) := by
  unfold lt
  rw [hx, hy]
  exact bf_kk worst (hok.at hx) (hok.at hy)

/-- What the choice among a place and its children gives. -/
theorem top_spec (worst : Bool) (l : List It) (i : Nat) (hok : Ok l) :
    (top2 worst l i = i ∧ ∀ j x y, 0 < j → (j - 1) / 2 = i → l[j]? = some x → l[i]? = some y → kk worst y ≤ kk worst x) ∨
    ((top2 worst l i = 2 * i + 1 ∨ top2 worst l i = 2 * i + 2) ∧ ∃ xt xi, l[top2 worst l i]? = some xt ∧ l[i]? = some xi ∧ kk worst xt ≤ kk worst xi ∧ ∀ j x, 0 < j → (j - 1) / 2 = i → l[j]? = some x → kk worst xt ≤ kk worst x) := by
  have kids : ∀ j, 0 < j → (j - 1) / 2 = i → j = 2 * i + 1 ∨ j = 2 * i + 2 := by intro j h1 h2; omega
  cases h1 : lt worst l (2 * i + 1) i with
  | true =>
    have t1 : top1 worst l i = 2 * i + 1 := by simp [top1, h1]
    obtain ⟨a1, a2⟩ := lt_true h1
    obtain ⟨xl, hxl⟩ : ∃ x, l[2 * i + 1]? = some x := ⟨_, List.getElem?_eq_getElem a1⟩
    obtain ⟨xi, hxi⟩ : ∃ x, l[i]? = some x := ⟨_, List.getElem?_eq_getElem a2⟩
    rw [lt_kk hok hxl hxi, decide_eq_true_eq] at h1
    cases h2 : lt worst l (2 * i + 2) (2 * i + 1) with
    | true =>
      have t2 : top2 worst l i = 2 * i + 2 := by simp [top2, t1, h2]
      obtain ⟨b1, _⟩ := lt_true h2
      obtain ⟨xr, hxr⟩ : ∃ x, l[2 * i + 2]? = some x := ⟨_, List.getElem?_eq_getElem b1⟩
      rw [lt_kk hok hxr hxl, decide_eq_true_eq] at h2
      refine .inr ⟨.inr t2, xr, xi, by rw [t2]; exact hxr, hxi, by omega, fun j x hj hji hx => ?_⟩
      rcases kids j hj hji with rfl | rfl
      · rw [hxl] at hx; cases hx; omega
      · rw [hxr] at hx; cases hx; omega
    | false =>
      have t2 : top2 worst l i = 2 * i + 1 := by simp [top2, t1, h2]
      refine .inr ⟨.inl t2, xl, xi, by rw [t2]; exact hxl, hxi, by omega, fun j x hj hji hx => ?_⟩
      rcases kids j hj hji with rfl | rfl
      · rw [hxl] at hx; cases hx; omega
      · rw [lt_kk hok hx hxl, decide_eq_false_iff_not] at h2; omega
  | false =>
    have t1 : top1 worst l i = i := by simp [top1, h1]
    cases h2 : lt worst l (2 * i + 2) i with
    | true =>
      have t2 : top2 worst l i = 2 * i + 2 := by simp [top2, t1, h2]
      obtain ⟨b1, b2⟩ := lt_true h2
      obtain ⟨xr, hxr⟩ : ∃ x, l[2 * i + 2]? = some x := ⟨_, List.getElem?_eq_getElem b1⟩
      obtain ⟨xi, hxi⟩ : ∃ x, l[i]? = some x := ⟨_, List.getElem?_eq_getElem b2⟩
      rw [lt_kk hok hxr hxi, decide_eq_true_eq] at h2
      refine .inr ⟨.inr t2, xr, xi, by rw [t2]; exact hxr, hxi, by omega, fun j x hj hji hx => ?_⟩
      rcases kids j hj hji with rfl | rfl
      · rw [lt_kk hok hx hxi, decide_eq_false_iff_not] at h1; omega
      · rw [hxr] at hx; cases hx; omega
    | false =>
      have t2 : top2 worst l i = i := by simp [top2, t1, h2]
      refine .inl ⟨t2, fun j x y hj hji hx hy => ?_⟩
      rcases kids j hj hji with rfl | rfl
      · rw [lt_kk hok hx hy, decide_eq_false_iff_not] at h1; omega
      · rw [lt_kk hok hx hy, decide_eq_false_iff_not] at h2; omega

theorem downInv_step {worst : Bool} {l : List It} {i t : Nat} {xt xi : It} (h : DownInv worst l i) (ht : t = 2 * i + 1 ∨ t = 2 * i + 2) (hxt : l[t]? = some xt) (hxi : l[i]? = some xi) (hle : kk worst xt ≤ kk worst xi)
    (hmin : ∀ j x, 0 < j → (j - 1) / 2 = i → l[j]? = some x → kk worst xt ≤ kk worst x) : DownInv worst (swp l i t) t := by
  obtain ⟨h1, h2⟩ := h
  constructor
  · intro j a b hj hq ha hb
    rw [swp_get hxi hxt] at ha hb
    rw [if_neg (Ne.symm hq)] at hb
    by_cases hqi : i = (j - 1) / 2
    · rw [if_pos hqi] at hb
      cases hb
      by_cases hjt : t = j
      · rw [if_pos hjt] at ha; cases ha; exact hle
      · rw [if_neg hjt, if_neg (by omega)] at ha
        exact hmin j a hj hqi.symm ha
    · rw [if_neg hqi] at hb
      rw [if_neg (by omega)] at ha
      by_cases hji : i = j
      · rw [if_pos hji] at ha
        cases ha
        subst hji
        exact h2 t xt b hj (by omega) (by omega) hxt hb
      · rw [if_neg hji] at ha
        exact h1 j a b hj (Ne.symm hqi) ha hb
  · intro j a b ht0 hj hjt ha hb
    rw [swp_get hxi hxt] at ha hb
    rw [if_neg (by omega), if_neg (by omega)] at ha
    rw [if_neg (by omega), if_pos (by omega)] at hb
    cases hb
    exact h1 j a xt hj (by omega) ha (by rw [hjt]; exact hxt)

theorem down_heap (worst : Bool) (f : Nat) (l : List It) (i : Nat) (hok : Ok l) (h : DownInv worst l i) (hf : l.length + 1 ≤ f + i) (hi : i ≤ l.length) : Heap worst (down worst f l i) := by
  induction f generalizing l i with
  | zero => omega
  | succ f ih =>
    rcases top_spec worst l i hok with ⟨ht, hk⟩ | ⟨ht, xt, xi, hxt, hxi, hle, hmin⟩
    · rw [down_stop ht]
      intro j x y hj hx hy
      by_cases hji : (j - 1) / 2 = i
      · exact hk j x y hj hji hx (by rw [← hji]; exact hy)
      · exact h.1 j x y hj hji hx hy
    · have hlt := get_lt hxt
      have hne : top2 worst l i ≠ i := by omega
      rw [down_go rfl hne]
      exact ih _ _ (hok.perm (swp_perm _ _ _)) (downInv_step h ht hxt hxi hle hmin) (by rw [swp_length]; omega) (by rw [swp_length]; omega)

theorem move_get {l : List It} {n : Nat} {z : It} (hl : l.length = n + 1) (hz : l[n]? = some z) (j : Nat) : (moveL l)[j]? = if j < n then (if j = 0 then some z else l[j]?) else none := by
  rw [moveL_eq hl hz]
  by_cases hj : j < n
  · rw [if_pos hj, List.getElem?_take_of_lt hj, List.getElem?_set]
    by_cases h0 : j = 0
    · subst h0; rw [if_pos rfl, if_pos (by omega), if_pos rfl]
    · rw [if_neg (by omega), if_neg h0]
  · rw [if_neg hj, List.getElem?_eq_none (by rw [List.length_take]; omega)]

theorem move_inv {worst : Bool} {l : List It} {n : Nat} {z : It} (hl : l.length = n + 1) (hz : l[n]? = some z) (h : Heap worst l) : DownInv worst (moveL l) 0 := by
  constructor
  · intro j x y hj hq hx hy
    rw [move_get hl hz] at hx hy
    have hjn : j < n := by
      rcases Nat.lt_or_ge j n with h1 | h1
      · exact h1
      · rw [if_neg (by omega)] at hx; cases hx
    rw [if_pos hjn, if_neg (by omega)] at hx
    rw [if_pos (by omega), if_neg hq] at hy
    exact h j x y hj hx hy
  · intro j x y h0; omega

theorem move_length {l : List It} {n : Nat} {z : It} (hl : l.length = n + 1) (hz : l[n]? = some z) : (moveL l).length = n := by
  rw [moveL_eq hl hz, List.length_take, List.length_set]; omega

theorem move_perm {l : List It} {n : Nat} {x z : It} (hl : l.length = n + 1) (hx : l[0]? = some x) (hz : l[n]? = some z) : (x :: moveL l).Perm l := by
  rw [moveL_eq hl hz]
  match l, hl with
  | a :: r, hl =>
    simp only [List.getElem?_cons_zero, Option.some.injEq] at hx
    subst hx
    simp only [List.length_cons, Nat.add_right_cancel_iff] at hl
    cases n with
    | zero =>
      have : r = [] := List.eq_nil_of_length_eq_zero hl
      subst this
      simp
    | succ n =>
      simp only [List.getElem?_cons_succ] at hz
      simp only [List.set_cons_zero, List.take_succ_cons]
      have hr : r = r.take n ++ [z] := by
        have h1 : r.take (n + 1) = r := List.take_of_length_le (by omega)
        rw [List.take_add_one, hz] at h1
        exact h1.symm
      refine List.Perm.cons a ?_
      have h2 := (List.perm_append_singleton z (r.take n)).symm
      rw [← hr] at h2
      exact h2

theorem pop_perm (worst : Bool) {l : List It} {n : Nat} {x z : It} (hl : l.length = n + 1) (hx : l[0]? = some x) (hz : l[n]? = some z) : (x :: popL worst l).Perm l :=
  ((down_perm worst _ (moveL l) 0).cons x).trans (move_perm hl hx hz)

theorem pop_heap (worst : Bool) {l : List It} {n : Nat} {x z : It} (hok : Ok l) (hl : l.length = n + 1) (hx : l[0]? = some x) (hz : l[n]? = some z) (h : Heap worst l) : Heap worst (popL worst l) := by
  have hok2 : Ok (moveL l) := fun y hy => hok y ((move_perm hl hx hz).mem_iff.1 (List.mem_cons_of_mem _ hy))
  exact down_heap worst _ _ 0 hok2 (move_inv hl hz h) (by rw [move_length hl hz, hl]; omega) (Nat.zero_le _)

end Go.Proofs.Qxb6617404a

/-
  The small functions of the laws: same similarity, same item, NaN, heap order.
-/
import Derived.Test.Qxb6617404aFloat
import Derived.Laws.FloatArith
namespace Go.Proofs.Qxb6617404a
open Go.RowKit
attribute [local go_sem] run_store_float

/-- A zero's sign; no other number's. -/
def zneg (x : Nat) : Bool := decide (rk x = 0) && (Ieee.single.read x).neg

/-- The same similarity, a zero's sign too. -/
def sameS (x y : Nat) : Bool := decide (rk x = rk y) && (zneg x == zneg y)

theorem rk_zero : rk 0 = 0 := by decide
theorem nan_zero : isNaN 0 = false := by decide

theorem ne_rk (x y : Nat) (hx : isNaN x = false) (hy : isNaN y = false) : (FloatKind.f32.format.order x y != some .eq) = decide (rk x ≠ rk y) := by
  show (Ieee.single.order x y != some .eq) = _
  rw [order_rk x y hx hy]
  by_cases h : rk x = rk y
  · rw [(cmp_eq _ _).2 h, decide_eq_false (by simpa using h)]; rfl
  · rw [decide_eq_true h]
    have : compare (rk x) (rk y) ≠ .eq := fun e => h ((cmp_eq _ _).1 e)
    cases hc : compare (rk x) (rk y) <;> simp_all

/-- A datum of rank nought is a zero. -/
theorem zero_read (x : Nat) (hx : isNaN x = false) (h : rk x = 0) : ∃ s i, Ieee.single.read x = .number s 0 i := by
  have hg := good_read x hx
  unfold rk at h
  have hbig : 0 < big := Nat.two_pow_pos bigE
  cases hr : Ieee.single.read x with
  | nan => rw [hr] at hg; exact hg.elim
  | infinity s => rw [hr] at h; simp only [dkey] at h; cases s <;> simp at h <;> omega
  | number s m i =>
    rw [hr] at h
    simp only [dkey] at h
    have h0 : m * 2 ^ (i + 149).toNat = 0 := by cases s <;> simp only [Bool.false_eq_true, if_false, if_true] at h <;> omega
    rcases Nat.mul_eq_zero.1 h0 with h1 | h1
    · exact ⟨s, i, by rw [h1]⟩
    · have := Nat.two_pow_pos (i + 149).toNat; omega

theorem inv_zero (x : Nat) (hx : isNaN x = false) (h : rk x = 0) : floatBits .quo .f32 1065353216 x = some (Ieee.single.word (Ieee.single.read x).neg Ieee.single.infRung) := by
  obtain ⟨s, i, hr⟩ := zero_read x hx h
  show Ieee.single.div 1065353216 x = _
  unfold Ieee.Format.div
  rw [hr]
  have h1 : Ieee.single.read 1065353216 = .number false 8388608 (-23) := by decide
  rw [h1]
  simp only [Ieee.Datum.quotient, if_true, Ieee.Datum.neg]
  cases s <;> rfl

theorem inv_sign (s : Bool) : (FloatKind.f32.format.order (Ieee.single.word s Ieee.single.infRung) 0 == some .gt) = !s := by
  cases s <;> decide

set_option maxHeartbeats 400000 in
theorem sameSim_any (x y : Nat) (w : World) (hx : isNaN x = false) (hy : isNaN y = false) :
    Calls Try.prog 22 #[.float .f32 x, .float .f32 y] w fun e w' => e = .returned (.bool (sameS x y)) ∧ w' = w := by
  have n1 := ne_rk x y hx hy
  have n2 := ne_rk x 0 hx nan_zero
  rw [rk_zero] at n2
  by_cases h1 : rk x = rk y
  · rw [decide_eq_false (by simpa using h1)] at n1
    by_cases h2 : rk x = 0
    · rw [decide_eq_false (by simpa using h2)] at n2
      have q1 := fun (wx : World) => run_float_arith (P := Try.prog) wx .quo 28 .f32 1065353216 x _ (inv_zero x hx h2)
      have q2 := fun (wx : World) => run_float_arith (P := Try.prog) wx .quo 28 .f32 1065353216 y _ (inv_zero y hy (h1 ▸ h2))
      have s1 := inv_sign (Ieee.single.read x).neg
      have s2 := inv_sign (Ieee.single.read y).neg
      have HS : Hid (sameS x y = ((Ieee.single.read x).neg == (Ieee.single.read y).neg)) := by
        have h3 : rk y = 0 := h1 ▸ h2
        show sameS x y = _
        simp [sameS, zneg, h2, h3]
      generalize (Ieee.single.read x).neg = a at *
      generalize (Ieee.single.read y).neg = b at *
      generalize Ieee.single.word a Ieee.single.infRung = ra at *
      generalize Ieee.single.word b Ieee.single.infRung = rb at *
      clear h1 h2
      go_enter Try.func22, Try.ntmps22
      go_wp2
      go_ret
      exact ⟨by rw [HS.out]; cases a <;> cases b <;> rfl, rfl⟩
    · rw [decide_eq_true h2] at n2
      have HS : Hid (sameS x y = true) := by
        have h3 : rk y ≠ 0 := h1 ▸ h2
        show sameS x y = _
        simp [sameS, zneg, h3, h1]
      clear h1 h2
      go_enter Try.func22, Try.ntmps22
      go_wp2
      go_ret
      exact ⟨by rw [HS.out]; rfl, rfl⟩
  · rw [decide_eq_true h1] at n1
    have HS : Hid (sameS x y = false) := by show sameS x y = _; simp [sameS, h1]
    clear h1
    go_enter Try.func22, Try.ntmps22
    go_wp2
    go_ret
    exact ⟨by rw [HS.out]; rfl, rfl⟩

def sameI (a b : It) : Bool := decide (a.id = b.id) && sameS a.sim b.sim

set_option maxHeartbeats 400000 in
theorem sameItem_any (a b : It) (w : World) (ha : isNaN a.sim = false) (hb : isNaN b.sim = false) :
    Calls Try.prog 17 #[.agg #[.int .i32 a.id, .float .f32 a.sim], .agg #[.int .i32 b.id, .float .f32 b.sim]] w fun e w' => e = .returned (.bool (sameI a b)) ∧ Below w.heap.size w w' := by
  by_cases h : a.id = b.id
  · have HS : Hid (sameI a b = sameS a.sim b.sim) := by show sameI a b = _; simp [sameI, h]
    have h1 : (a.id == b.id) = true := by simp [h]
    generalize a.id = ai at *
    generalize b.id = bi at *
    generalize a.sim = as' at *
    generalize b.sim = bs' at *
    subst h
    go_enter Try.func17, Try.ntmps17
    go_wp2_with (go_at_call 22; refine (sameSim_any as' bs' _ ha hb).mono ?_; rintro e w1 ⟨rfl, rfl⟩)
    go_ret
    exact ⟨by rw [HS.out]; rfl, ((Below.refl _ _).alloc (Nat.le_refl _) _).alloc (by simp) _⟩
  · have HS : Hid (sameI a b = false) := by show sameI a b = _; simp [sameI, h]
    have h1 : (a.id == b.id) = false := by simp [h]
    go_enter Try.func17, Try.ntmps17
    go_wp2
    go_ret
    exact ⟨by rw [HS.out]; rfl, ((Below.refl _ _).alloc (Nat.le_refl _) _).alloc (by simp) _⟩

/-- What a walk is told of a slice of items that it reads. -/
def Items (w : World) (a : Option Addr) (len : Nat) (l : List It) : Prop :=
  l.length = len ∧ (0 < len → ∃ b off, a = some ⟨b, off, none⟩ ∧ b < w.heap.size ∧ ∀ i x, l[i]? = some x → w.cell? ⟨b, off + i * 2, none⟩ = some (.int .i32 x.id) ∧ w.cell? ⟨b, off + i * 2 + 1, none⟩ = some (.float .f32 x.sim))

theorem Items.at {w : World} {a : Option Addr} {len : Nat} {l : List It} (h : Items w a len l) {i : Nat} (hi : i < len) :
    ∃ b off x, a = some ⟨b, off, none⟩ ∧ b < w.heap.size ∧ l[i]? = some x ∧ w.cell? ⟨b, off + i * 2, none⟩ = some (.int .i32 x.id) ∧ w.cell? ⟨b, off + i * 2 + 1, none⟩ = some (.float .f32 x.sim) := by
  obtain ⟨hl, hc⟩ := h
  obtain ⟨b, off, ha, hb, hcc⟩ := hc (by omega)
  have hg : l[i]? = some (l[i]'(by omega)) := List.getElem?_eq_getElem (by omega)
  exact ⟨b, off, _, ha, hb, hg, hcc i _ hg⟩

theorem Items.below {w w' : World} {a : Option Addr} {len : Nat} {l : List It} (h : Items w a len l) (hb : Below w.heap.size w w') : Items w' a len l := by
  obtain ⟨h1, h2⟩ := h
  refine ⟨h1, fun h0 => ?_⟩
  obtain ⟨b, o, ha, hlt, hc⟩ := h2 h0
  have hsz := hb.size
  exact ⟨b, o, ha, by omega, fun k x hx => by rw [hb.cell (by exact hlt), hb.cell (by exact hlt)]; exact hc k x hx⟩

theorem Items.drewN {w : World} {a : Option Addr} {len : Nat} {l : List It} (h : Items w a len l) (n : Nat) : Items (w.drewN n) a len l := h

/-- A call that answers a bool and turns nothing (draws aside). -/
def Tells (w : World) (p : Bool → Prop) (e : Ending) (w' : World) : Prop := ∃ c, e = .returned (.bool c) ∧ (∃ n, w' = w.drewN n) ∧ p c

def NoNaN (l : List It) (c : Bool) : Prop := c = false → ∀ x ∈ l, isNaN x.sim = false

theorem ne_self' (x : Nat) : (FloatKind.f32.format.order x x != some .eq) = isNaN x := ne_self x

set_option maxHeartbeats 400000 in
theorem hasNaN_any (a : Option Addr) (len cap : Nat) (l : List It) (w : World) (hl : len ≤ 4194304) (h : Hid (Items w a len l)) :
    Calls Try.prog 7 #[.slice a len cap] w (Tells w (NoNaN l)) := by
  go_enter Try.func7, Try.ntmps7
  go_wp2
  go_loopw [3] (fun i wr => ∃ k n : Nat, k ≤ len ∧ i = .int .i64 k ∧ wr = w.drewN n ∧ Hid (∀ j x, j < k → l[j]? = some x → isNaN x.sim = false)) (fun i _ => len - (intOf i).toNat)
  case atStart => exact ⟨0, 0, Nat.zero_le _, rfl, rfl, fun j x hj => by omega⟩
  case round =>
    obtain ⟨k, n, hk, rfl, rfl, hno⟩ := hrel
    by_cases hlt : k < len
    · obtain ⟨b, off, x, rfl, _, hgx, hc0, hc1⟩ := h.out.at hlt
      have i1 : (k : Int) < (len : Int) := by omega
      have HX : Hid (l[k]? = some x) := hgx
      have hs := ne_self' x.sim
      clear hgx
      cases hn : isNaN x.sim with
      | true =>
        rw [hn] at hs
        clear hn
        go_wp2
        go_quiet (fail)
        go_wp2
        go_ret
        exact ⟨true, rfl, ⟨n + nq, by simp⟩, fun h => by cases h⟩
      | false =>
        rw [hn] at hs
        have HN : Hid (isNaN x.sim = false) := hn
        clear hn
        go_wp2
        go_quiet (fail)
        go_wp2
        go_roundw
        case rel =>
          exact ⟨k + 1, n + nq, by omega, by go_num, rfl, fun j y hj hy => by
            by_cases e : j = k
            · subst e; rw [← Option.some.inj (HX.out.symm.trans hy)]; exact HN.out
            · exact hno.out j y (by omega) hy⟩
        case measure => simp [intOf]; omega
    · go_wp2
      go_ret
      refine ⟨false, rfl, ⟨n, rfl⟩, fun _ x hx => ?_⟩
      obtain ⟨j, hj, he⟩ := List.mem_iff_getElem.1 hx
      have h1 := h.out.1
      exact hno.out j x (by omega) (by rw [← he]; exact List.getElem?_eq_getElem hj)

end Go.Proofs.Qxb6617404a

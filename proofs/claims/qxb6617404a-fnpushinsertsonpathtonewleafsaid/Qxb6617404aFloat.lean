/-
  THE ORDER OF float32 NUMBERS THAT ARE NO NaN, AS THE ORDER OF INTEGERS.
-/
import Derived.Test.Qxb6617404aBase
namespace Go.Proofs.Qxb6617404a

/-- A number beyond all finite ones, in units of the least place. -/
def bigE : Nat := 300
def big : Nat := 2 ^ bigE

/-- The rank of a datum: its number in units of the least place; the infinities beyond all of them. -/
def dkey : Ieee.Datum → Int
  | .number s m i => if s then -((m * 2 ^ (i + 149).toNat : Nat) : Int) else ((m * 2 ^ (i + 149).toNat : Nat) : Int)
  | .infinity s => if s then -(big : Int) else (big : Int)
  | .nan _ _ => 0

def isNaN (x : Nat) : Bool := (Ieee.single.read x).isNaN
def rk (x : Nat) : Int := dkey (Ieee.single.read x)

/-- What a float32's datum is like. -/
def Good : Ieee.Datum → Prop
  | .number _ m i => -149 ≤ i ∧ m * 2 ^ (i + 149).toNat < big
  | .infinity _ => True
  | .nan _ _ => False

theorem mul_lt_big (m e : Nat) (hm : m < 2 ^ 24) (he : e ≤ 254) : m * 2 ^ e < big := by
  have h1 : m * 2 ^ e < 2 ^ 24 * 2 ^ e := (Nat.mul_lt_mul_right (Nat.two_pow_pos e)).2 hm
  have h2 : 2 ^ 24 * 2 ^ e = 2 ^ (24 + e) := (Nat.pow_add 2 24 e).symm
  have hE : 24 + e ≤ bigE := by have : bigE = 300 := rfl; omega
  have h3 : 2 ^ (24 + e) ≤ 2 ^ bigE := Nat.pow_le_pow_right (by decide) hE
  rw [h2] at h1
  exact Nat.lt_of_lt_of_le h1 h3

theorem good_read (x : Nat) (h : isNaN x = false) : Good (Ieee.single.read x) := by
  unfold isNaN at h
  unfold Ieee.Format.read at h ⊢
  simp only at h ⊢
  have hb : Ieee.single.binade = 8388608 := by decide
  have hi : Ieee.single.infRung = 2139095040 := by decide
  have hl : Ieee.single.leastPlace = -149 := by decide
  have hs : Ieee.single.signWeight = 2147483648 := by decide
  rw [hb, hi, hl, hs] at h ⊢
  by_cases h1 : x % 2147483648 < 8388608
  · rw [if_pos h1]
    refine ⟨by omega, ?_⟩
    exact mul_lt_big _ _ (by have : (2 : Nat) ^ 24 = 16777216 := by decide
                             omega) (by omega)
  · rw [if_neg h1] at h ⊢
    by_cases h2 : x % 2147483648 < 2139095040
    · rw [if_pos h2]
      refine ⟨by omega, ?_⟩
      exact mul_lt_big _ _ (by have : (2 : Nat) ^ 24 = 16777216 := by decide
                               omega) (by omega)
    · rw [if_neg h2] at h ⊢
      by_cases h3 : x % 2147483648 = 2139095040
      · rw [if_pos h3]; trivial
      · rw [if_neg h3] at h
        simp [Ieee.Datum.isNaN] at h

theorem cmp_def (a b : Int) : compare a b = if a < b then .lt else if a = b then .eq else .gt := rfl
theorem cmp_lt (a b : Int) : compare a b = .lt ↔ a < b := by
  rw [cmp_def]
  by_cases h : a < b
  · simp [h]
  · rw [if_neg h]; by_cases h2 : a = b <;> simp [h2]; omega
theorem cmp_eq (a b : Int) : compare a b = .eq ↔ a = b := by
  rw [cmp_def]
  by_cases h : a < b
  · rw [if_pos h]; simp; omega
  · rw [if_neg h]; by_cases h2 : a = b <;> simp [h2]
theorem cmp_gt (a b : Int) : compare a b = .gt ↔ b < a := by
  rw [cmp_def]
  by_cases h : a < b
  · rw [if_pos h]; simp; omega
  · rw [if_neg h]; by_cases h2 : a = b
    · rw [if_pos h2]; simp; omega
    · rw [if_neg h2]; simp; omega

theorem cmp_of {a b c d : Int} (h1 : a < b ↔ c < d) (h2 : b < a ↔ d < c) : compare a b = compare c d := by
  rcases Int.lt_trichotomy a b with h | h | h
  · rw [(cmp_lt a b).2 h, (cmp_lt c d).2 (h1.1 h)]
  · have : c = d := by
      have q1 : ¬ c < d := fun h' => by have := h1.2 h'; omega
      have q2 : ¬ d < c := fun h' => by have := h2.2 h'; omega
      omega
    rw [(cmp_eq a b).2 h, (cmp_eq c d).2 this]
  · rw [(cmp_gt a b).2 h, (cmp_gt c d).2 (h2.1 h)]

theorem dkey_number (s : Bool) (m : Nat) (i b : Int) (hb : b ≤ i) (h : -149 ≤ b) : dkey (.number s m i) = Ieee.signed s m (i - b).toNat * 2 ^ (b + 149).toNat := by
  have e : (i + 149).toNat = (i - b).toNat + (b + 149).toNat := by omega
  simp only [dkey, Ieee.signed, Nat.shiftLeft_eq]
  rw [e, Nat.pow_add]
  cases s <;> simp [Int.mul_assoc, Int.neg_mul]

theorem order_key (d e : Ieee.Datum) (hd : Good d) (he : Good e) : d.order e = some (compare (dkey d) (dkey e)) := by
  have hbig : (0 : Int) < (big : Int) := by
    have : 0 < big := Nat.two_pow_pos bigE
    omega
  cases d with
  | nan => exact hd.elim
  | infinity s =>
    cases e with
    | nan => exact he.elim
    | infinity t =>
      simp only [Ieee.Datum.order, dkey, Option.some.injEq]
      cases s <;> cases t
      · simp only [Bool.false_eq_true, if_false]
        rw [(cmp_eq _ _).2 rfl]; rfl
      · simp only [Bool.false_eq_true, if_false, if_true]
        rw [(cmp_gt _ _).2 (by omega)]; rfl
      · simp only [Bool.false_eq_true, if_false, if_true]
        rw [(cmp_lt _ _).2 (by omega)]; rfl
      · simp only [if_true]
        rw [(cmp_eq _ _).2 rfl]; rfl
    | number t n j =>
      obtain ⟨_, hlt⟩ := he
      simp only [Ieee.Datum.order, dkey, Option.some.injEq]
      cases s <;> cases t <;> simp only [Bool.false_eq_true, if_false, if_true]
      · rw [(cmp_gt _ _).2 (by omega)]
      · rw [(cmp_gt _ _).2 (by omega)]
      · rw [(cmp_lt _ _).2 (by omega)]
      · rw [(cmp_lt _ _).2 (by omega)]
  | number s m i =>
    cases e with
    | nan => exact he.elim
    | infinity t =>
      obtain ⟨_, hlt⟩ := hd
      simp only [Ieee.Datum.order, dkey, Option.some.injEq]
      cases s <;> cases t <;> simp only [Bool.false_eq_true, if_false, if_true]
      · rw [(cmp_lt _ _).2 (by omega)]
      · rw [(cmp_gt _ _).2 (by omega)]
      · rw [(cmp_lt _ _).2 (by omega)]
      · rw [(cmp_gt _ _).2 (by omega)]
    | number t n j =>
      have h1 := hd.1
      have h2 := he.1
      rw [dkey_number s m i (min i j) (by omega) (by omega), dkey_number t n j (min i j) (by omega) (by omega)]
      simp only [Ieee.Datum.order, Option.some.injEq]
      have hp : (0 : Int) < 2 ^ (min i j + 149).toNat := Int.pow_pos (by decide)
      exact cmp_of (Int.mul_lt_mul_right hp).symm (Int.mul_lt_mul_right hp).symm

theorem order_rk (x y : Nat) (hx : isNaN x = false) (hy : isNaN y = false) : Ieee.single.order x y = some (compare (rk x) (rk y)) :=
  order_key _ _ (good_read x hx) (good_read y hy)

theorem order_nan (x y : Nat) (hx : isNaN x = true) : Ieee.single.order x y = none := by
  unfold isNaN at hx
  unfold Ieee.Format.order
  cases h : Ieee.single.read x with
  | nan => simp [Ieee.Datum.order]
  | infinity s => rw [h] at hx; simp [Ieee.Datum.isNaN] at hx
  | number s m i => rw [h] at hx; simp [Ieee.Datum.isNaN] at hx

/-- 'x != x' tells a NaN. -/
theorem ne_self (x : Nat) : (Ieee.single.order x x != some .eq) = isNaN x := by
  cases h : isNaN x with
  | true => rw [order_nan x x h]; rfl
  | false => rw [order_rk x x h h, (cmp_eq _ _).2 rfl]; rfl

/-- The key by which a heap is ordered: the least first. -/
def key (worst : Bool) (x : Nat) : Int := if worst then rk x else -rk x

theorem bf_key (worst : Bool) (x y : Nat) (hx : isNaN x = false) (hy : isNaN y = false) : bf worst x y = decide (key worst x < key worst y) := by
  unfold bf key
  rw [order_rk x y hx hy]
  cases worst
  · simp only [Bool.false_eq_true, if_false]
    by_cases h : rk y < rk x
    · rw [(cmp_gt _ _).2 h, decide_eq_true (by omega)]; rfl
    · rw [decide_eq_false (by omega)]
      have : compare (rk x) (rk y) ≠ .gt := fun e => h ((cmp_gt _ _).1 e)
      cases hc : compare (rk x) (rk y) <;> simp_all
  · simp only [if_true]
    by_cases h : rk x < rk y
    · rw [(cmp_lt _ _).2 h, decide_eq_true (by omega)]; rfl
    · rw [decide_eq_false (by omega)]
      have : compare (rk x) (rk y) ≠ .lt := fun e => h ((cmp_lt _ _).1 e)
      cases hc : compare (rk x) (rk y) <;> simp_all

/-- Equal keys are equal numbers. -/
theorem eq_of_key (worst : Bool) (x y : Nat) (hx : isNaN x = false) (hy : isNaN y = false) (h : key worst x = key worst y) : (Ieee.single.order x y != some .eq) = false := by
  rw [order_rk x y hx hy, (cmp_eq _ _).2 (by unfold key at h; cases worst <;> simp at h <;> omega)]
  rfl

end Go.Proofs.Qxb6617404a

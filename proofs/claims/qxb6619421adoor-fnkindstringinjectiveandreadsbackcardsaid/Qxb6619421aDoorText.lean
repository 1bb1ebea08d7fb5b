/-
  THE PLAIN LAW: what String writes; that it reads back; that no two kinds share a text.
-/
import Derived.Test.Qxb6619421aDoorWalks1
namespace Go.Proofs.Qxb6619421aDoor
open Go.RowKit

def dg (x : Nat) : UInt8 := UInt8.ofNat (48 + x)

/-- The decimal digits of a number under 1000. -/
def digs (k : Nat) : List UInt8 := if k < 10 then [dg k] else if k < 100 then [dg (k / 10), dg (k % 10)] else [dg (k / 10 / 10), dg (k / 10 % 10), dg (k % 10)]

/-- The text of a kind. -/
def txt (k : Nat) : List UInt8 :=
  if k = 1 then [116, 101, 120, 116] else if k = 2 then [98, 105, 110, 97, 114, 121] else if k = 3 then [99, 108, 111, 115, 101] else if k = 4 then [98, 121, 116, 101, 115]
  else [75, 105, 110, 100, 40] ++ digs k ++ [41]

theorem itoa_digs (k : Nat) (h : k < 256) : Lib.itoa (k : Int) = digs k := by
  unfold Lib.itoa digs
  rw [if_neg (by omega), Int.toNat_natCast]
  by_cases h1 : k < 10
  · rw [if_pos h1, Lib.decDigits, dif_pos h1]; rfl
  · rw [if_neg h1, Lib.decDigits, dif_neg h1]
    by_cases h2 : k < 100
    · rw [if_pos h2, Lib.decDigits, dif_pos (by omega)]; rfl
    · rw [if_neg h2, Lib.decDigits, dif_neg (by omega), Lib.decDigits, dif_pos (by omega)]; rfl

/-- The text's bytes as numbers. -/
def ch (k i : Nat) : Nat := ((txt k).getD i 0).toNat

theorem word_facts : ∀ k : Fin 256, 1 ≤ k.val → k.val ≤ 4 → 1 ≤ (txt k.val).length ∧ (txt k.val).length ≤ 100 ∧ ∀ i, i < (txt k.val).length → 97 ≤ ch k.val i ∧ ch k.val i ≤ 122 := by decide +kernel
theorem head_facts : ∀ k : Fin 256, ¬ (1 ≤ k.val ∧ k.val ≤ 4) → ch k.val 0 = 75 ∧ ch k.val 1 = 105 ∧ ch k.val 2 = 110 ∧ ch k.val 3 = 100 ∧ ch k.val 4 = 40 := by decide +kernel
theorem one_facts : ∀ k : Fin 256, ¬ (1 ≤ k.val ∧ k.val ≤ 4) → k.val < 10 → (txt k.val).length = 7 ∧ ch k.val 6 = 41 ∧ (∀ i, i < 6 → 5 ≤ i → 48 ≤ ch k.val i ∧ ch k.val i ≤ 57) ∧ pv (ch k.val) 1 = k.val := by decide +kernel
theorem two_facts : ∀ k : Fin 256, ¬ k.val < 10 → k.val < 100 → (txt k.val).length = 8 ∧ ch k.val 7 = 41 ∧ (∀ i, i < 7 → 5 ≤ i → 48 ≤ ch k.val i ∧ ch k.val i ≤ 57) ∧ pv (ch k.val) 2 = k.val ∧ ch k.val 5 ≠ 48 := by decide +kernel
theorem three_facts : ∀ k : Fin 256, ¬ k.val < 100 → (txt k.val).length = 9 ∧ ch k.val 8 = 41 ∧ (∀ i, i < 8 → 5 ≤ i → 48 ≤ ch k.val i ∧ ch k.val i ≤ 57) ∧ pv (ch k.val) 3 = k.val ∧ ch k.val 5 ≠ 48 := by decide +kernel

/-- The kind of a text. -/
def untxt (l : List UInt8) : Nat :=
  if l = [116, 101, 120, 116] then 1 else if l = [98, 105, 110, 97, 114, 121] then 2 else if l = [99, 108, 111, 115, 101] then 3 else if l = [98, 121, 116, 101, 115] then 4
  else pv (fun i => (l.getD i 0).toNat) (l.length - 6)

theorem untxt_txt : ∀ k : Fin 256, untxt (txt k.val) = k.val := by decide +kernel

theorem txt_inj {a b : Nat} (ha : a < 256) (hb : b < 256) (h : txt a = txt b) : a = b := by
  have h1 := untxt_txt ⟨a, ha⟩
  have h2 := untxt_txt ⟨b, hb⟩
  simp only at h1 h2
  rw [← h1, ← h2, h]

/-- The text as a Go string. -/
def str (k : Nat) : ByteArray := ⟨(txt k).toArray⟩

theorem str_size (k : Nat) : (str k).size = (txt k).length := by simp [str, ByteArray.size]

theorem str_at (k : Nat) : ∀ i (h : i < (str k).size), ((str k)[i]'h).toNat = ch k i := by
  intro i h
  have hl : i < (txt k).length := by rw [← str_size]; exact h
  have e1 : (str k)[i]'h = (txt k)[i] := by
    show (txt k).toArray[i] = _
    simp
  rw [e1]
  simp [ch, List.getD, hl]

theorem str_ne {a b : Nat} (ha : a < 256) (hb : b < 256) (h : a ≠ b) : str a ≠ str b := fun e => h (txt_inj ha hb (by
  have := congrArg (fun s => s.data.toList) e
  simpa [str] using this))

theorem str_word (k : Nat) (h : ¬ (1 ≤ k ∧ k ≤ 4)) (h2 : k < 256) : (ByteArray.mk #[75, 105, 110, 100, 40] ++ ByteArray.mk (Lib.itoa (k : Int)).toArray) ++ ByteArray.mk #[41] = str k := by
  rw [itoa_digs k h2]
  have ht : txt k = [75, 105, 110, 100, 40] ++ digs k ++ [41] := by
    unfold txt
    rw [if_neg (by omega), if_neg (by omega), if_neg (by omega), if_neg (by omega)]
  apply ByteArray.ext
  rw [ByteArray.data_append, ByteArray.data_append]
  simp [str, ht]

end Go.Proofs.Qxb6619421aDoor

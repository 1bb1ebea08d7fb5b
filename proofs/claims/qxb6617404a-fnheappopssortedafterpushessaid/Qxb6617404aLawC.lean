/-
  THE LAW FnPopTakesFirstAndKeepsHeap: the walk.
-/
import Derived.Test.Qxb6617404aShims
namespace Go.Proofs.Qxb6617404a
open Go.RowKit
attribute [local go_sem] run_store_float

/-- A heap made over a row. -/
theorem heap_made {w : World} {g B : Nat} {l : List It} (worst : Bool) (h : Row2 w g 32 l) (hB : B ≤ g) (hm : l.length ≤ maxLen) :
    HeapAt (w.alloc (.cells #[.slice (some ⟨g, 0, none⟩) l.length l.length, .bool worst] 45)) B w.heap.size (.slice (some ⟨g, 0, none⟩) l.length l.length) worst l := by
  have hlt := h.lt
  refine ⟨heap_alloc_new w _, (h.owns hB hm).alloc _, ?_⟩
  intro e
  have := Option.some.inj e
  simp at this
  omega

theorem Items.tail {w : World} {b off n : Nat} {l : List It} (h : Items w (some ⟨b, off, none⟩) (n + 1) l) : Items w (some ⟨b, off + 2, none⟩) n l.tail := by
  obtain ⟨h1, h2⟩ := h
  refine ⟨by rw [List.length_tail]; omega, fun _ => ?_⟩
  obtain ⟨b', off', hA, hb, hc⟩ := h2 (by omega)
  cases hA
  refine ⟨b, off + 2, rfl, hb, fun i x hx => ?_⟩
  rw [List.getElem?_tail] at hx
  have := hc (i + 1) x hx
  rw [show off + (i + 1) * 2 = off + 2 + i * 2 from by omega] at this
  exact this

theorem items_zero (w : World) (a : Option Addr) {n : Nat} {l : List It} (hn : n = 0) (hl : l.length = n + 1) : Items w a n l.tail :=
  ⟨by rw [List.length_tail]; omega, fun h => by omega⟩

theorem undrewN {w w' : World} {n : Nat} (h : Below (w.drewN n).heap.size (w.drewN n) w') : Below w.heap.size w w' := ⟨h.os, h.tape, h.output, h.size, h.block⟩

set_option maxRecDepth 100000 in
set_option maxHeartbeats 1000000 in
theorem pop_walk (a : Option Addr) (len cap : Nat) (worst : Bool) (l : List It) (w : World) (hlen : len ≤ 9223372036854775807) (hcap : len ≤ cap) (h : Hid (Items w a len l)) :
    Calls Try.prog 5 #[.slice a len cap, .bool worst] w fun e w' => e = .returned (.bool true) ∧ Below w.heap.size w w' := by
  go_enter Try.func5, Try.ntmps5
  go_wp2_with fail
  refine (bytes19 a len cap worst w hlen).mono ?_
  rintro e w1 ⟨c, rfl, hw, _⟩
  subst w1
  cases c with
  | false =>
    go_wp2_with fail
    go_ret
    exact ⟨rfl, Below.refl _ _⟩
  | true =>
  by_cases q1 : 4096 < len
  · go_wp2_with fail
    go_ret
    exact ⟨rfl, Below.refl _ _⟩
  have l1 : len ≤ 4096 := by omega
  clear q1 hlen
  rcases Nat.eq_zero_or_pos len with q2 | q2
  · subst q2
    go_wp2_with fail
    go_ret
    exact ⟨rfl, Below.refl _ _⟩
  have q3 : ((len : Int) == 0) = false := beq_eq_false_iff_ne.2 (by omega)
  go_wp2_with fail
  refine (hasNaN_any a len cap l w (by omega) h).mono ?_
  rintro e w1 ⟨c, rfl, ⟨n1, rfl⟩, hnan⟩
  cases c with
  | true =>
    clear hnan
    go_wp2_with fail
    go_ret
    exact ⟨rfl, below_drewN (Below.refl _ _) _⟩
  | false =>
  have hok : Hid (Ok l) := hnan rfl
  clear hnan
  go_wp2_with fail
  refine (itemsHeap_any a len cap worst l _ (by omega) (h.out.drewN n1) hok).mono ?_
  rintro e w1 ⟨c, rfl, ⟨n2, rfl⟩, hhp⟩
  cases c with
  | false =>
    clear hhp
    go_wp2_with fail
    go_ret
    exact ⟨rfl, below_drewN (Below.refl _ _) _⟩
  | true =>
  have hheap : Hid (Heap worst l) := hhp rfl
  clear hhp
  go_wp2_with fail
  refine (toResults_any a len cap l _ (by omega) (h.out.drewN _)).mono ?_
  rintro e w3 ⟨rfl, hrow0, hb30⟩
  obtain ⟨n, rfl⟩ : ∃ n, len = n + 1 := ⟨len - 1, by omega⟩
  have hln : Hid (l.length = n + 1) := h.out.1
  obtain ⟨x, hx0⟩ : ∃ x, l[0]? = some x := ⟨_, List.getElem?_eq_getElem (by rw [hln.out]; omega)⟩
  obtain ⟨z, hz0⟩ : ∃ z, l[n]? = some z := ⟨_, List.getElem?_eq_getElem (by rw [hln.out]; omega)⟩
  have hx : Hid (l[0]? = some x) := hx0
  have hz : Hid (l[n]? = some z) := hz0
  clear hx0 hz0
  have hrow : Hid (Row2 w3 w.heap.size 32 l) := hrow0
  have hb3 : Below w.heap.size w w3 := undrewN hb30
  have hs3 : w.heap.size < w3.heap.size := hrow.out.lt
  clear hrow0 hb30
  go_wp2_with fail
  refine (newHeap_any _ (some ⟨w.heap.size, 0, none⟩) (n + 1) (n + 1) rfl worst _).mono ?_
  rintro e w4 ⟨rfl, hw4⟩
  have hH := heap_made (B := w.heap.size) worst hrow.out (Nat.le_refl _) (by rw [hln.out]; unfold maxLen; omega)
  rw [hln.out, ← hw4] at hH
  have hk4 : Below w3.heap.size w3 w4 := by rw [hw4]; exact (Below.refl _ _).alloc (Nat.le_refl _) _
  have hs4 : w4.heap.size = w3.heap.size + 1 := by rw [hw4]; simp
  clear hw4
  go_wp2_with fail
  refine (popShim_any w.heap.size w3.heap.size w.heap.size n (n + 1) worst l x z w4 hH hln (by omega) (by omega) (by omega) hx hz).mono ?_
  rintro e w5 ⟨rfl, v, hH5, hM5⟩
  have hs5 := hM5.size
  have k5 : Hid (Below w.heap.size w w5) := (hb3.trans (hk4.mono (by omega))).trans (hM5.below (by omega) (by omega) (fun g hg => by have := Option.some.inj hg; simp at this; omega))
  obtain ⟨a5, c5, rfl, hv5, hvc, hvm⟩ := hH5.view
  have hR : Hid ((popL worst l).length = n) := by
    have h1 := (pop_perm worst hln.out hx.out hz.out).length_eq
    rw [List.length_cons, hln.out] at h1
    show _ = _
    omega
  rw [hR.out] at hv5 hvc
  have hc5 := hH5.c0
  rw [hR.out] at hc5
  have HR5 : Hid (Items w5 a5 n (popL worst l)) := hv5
  have hbl5 : w3.heap.size < w5.heap.size := World.block_lt_of_cell? _ _ hc5
  obtain ⟨w6, hw6⟩ : ∃ w6, w6 = w5.alloc (.cells #[Value.int IntKind.i32 x.id, Value.float FloatKind.f32 x.sim] 32) := ⟨_, rfl⟩
  have hk6 : Below w5.heap.size w5 w6 := by rw [hw6]; exact (Below.refl _ _).alloc (Nat.le_refl _) _
  have hg6 : w6.heap[w5.heap.size]? = some (.cells #[Value.int IntKind.i32 x.id, Value.float FloatKind.f32 x.sim] 32 (0, 0)) := by rw [hw6]; exact heap_alloc_new w5 _
  have hs6 : w6.heap.size = w5.heap.size + 1 := by rw [hw6]; simp
  have hc6 : w6.cell? ⟨w3.heap.size, 0, none⟩ = some (.slice a5 n c5) := (hk6.cell (by exact hbl5)).trans hc5
  have HR6 : Hid (Items w6 a5 n (popL worst l)) := HR5.out.below hk6
  have k6 : Hid (Below w.heap.size w w6) := k5.out.trans (hk6.mono (by have := k5.out.size; omega))
  obtain ⟨g0, g1, _, _⟩ := pair_cells hg6
  obtain ⟨b, off, x', rfl, hb, hgx, hx0, hx1⟩ := h.out.at (show 0 < n + 1 by omega)
  obtain rfl : x' = x := Option.some.inj (hgx.symm.trans hx.out)
  have hi0 : w6.cell? ⟨b, off, none⟩ = some (.int .i32 x'.id) := (k6.out.cell (by exact hb)).trans (by simpa using hx0)
  have hi1 : w6.cell? ⟨b, off + 1, none⟩ = some (.float .f32 x'.sim) := (k6.out.cell (by exact hb)).trans (by simpa using hx1)
  have hbs : b < w6.heap.size := by have := k6.out.size; omega
  have hxn : Hid (isNaN x'.sim = false) := hok.out.at hgx
  clear hgx hx0 hx1 hH5 hM5 hv5 hH hk4 hb3 hg6 hc5 HR5 k5 hk6
  go_wp2_with fail
  rw [← hw6]
  clear hw6
  refine (items_any w3.heap.size _ w6 hc6).mono ?_
  rintro e w7 ⟨rfl, hw7⟩
  subst w7
  go_wp2_with fail
  go_region_held3 (fun w' => w'.cell? ⟨w5.heap.size, 0, none⟩ = some (.int .i32 x'.id) ∧ w'.cell? ⟨w5.heap.size, 1, none⟩ = some (.float .f32 x'.sim) ∧ w'.cell? ⟨b, off, none⟩ = some (.int .i32 x'.id) ∧ w'.cell? ⟨b, off + 1, none⟩ = some (.float .f32 x'.sim))
    (first
      | go_keep
      | (go_split_ands
         exact ⟨(hb2.cell (by show w5.heap.size < w6.heap.size; omega)).trans g0, (hb2.cell (by show w5.heap.size < w6.heap.size; omega)).trans g1, (hb2.cell (by exact hbs)).trans hi0, (hb2.cell (by exact hbs)).trans hi1⟩))
    ((go_at_call 17; refine (sameItem_any x' x' _ hxn.out hxn.out).mono ?_; rintro e w7 ⟨rfl, hb2⟩))
  have hk7 := undrew hb2
  rw [sameI_refl]
  have gg1 : w7.cell? ⟨w5.heap.size, 1, none⟩ = some (.float .f32 x'.sim) := (hk7.cell (by show w5.heap.size < w6.heap.size; omega)).trans g1
  have HR7 : Hid (Items w7 a5 n (popL worst l)) := HR6.out.below hk7
  have k7 : Hid (Below w.heap.size w w7) := k6.out.trans (hk7.mono (by have := k6.out.size; omega))
  clear hk7 hb2 g0 g1 hi0 hi1 hbs HR6 k6 hc6
  go_wp2_with fail
  go_loopw [9] (fun i wr => ∃ k q : Nat, k ≤ n + 1 ∧ i = .int .i64 k ∧ wr = w7.drewN q) (fun i _ => n + 1 - (intOf i).toNat)
  case atStart => exact ⟨0, 0, Nat.zero_le _, rfl, rfl⟩
  case round =>
    obtain ⟨k, q, hk, rfl, rfl⟩ := hrel
    by_cases hlt : k < n + 1
    · obtain ⟨b', off', y, hA, hb', hgy, hy0, hy1⟩ := h.out.at hlt
      cases hA
      have hc1 : w7.cell? ⟨b, off + k * 2 + 1, none⟩ = some (.float .f32 y.sim) := (k7.out.cell (by exact hb')).trans hy1
      have i1 : (k : Int) < (n : Int) + 1 := by omega
      have hbk : bf worst y.sim x'.sim = false := by
        rw [bf_kk worst (hok.out.at hgy) hxn.out]
        have := heap_first worst l hheap.out x' hx.out k y hgy
        exact decide_eq_false (by omega)
      have HBK : Hid (bf worst y.sim x'.sim = false) := hbk
      clear hy0 hy1 hgy hbk
      go_wp2_with fail
      go_quiet ((go_at_call 12; refine (hbBefore_any worst y.sim x'.sim _).mono ?_; rintro e w'' ⟨rfl, rfl⟩; exact ⟨rfl, _, rfl⟩))
      rw [HBK.out]
      go_wp2_with fail
      go_roundw
      case rel => exact ⟨k + 1, q + nq, by omega, by go_num, rfl⟩
      case measure => simp [intOf]; omega
    · have hP : Hid (Heap worst (popL worst l)) := pop_heap worst hok.out hln.out hx.out hz.out hheap.out
      have hPo : Hid (Ok (popL worst l)) := fun y hy => hok.out y ((pop_perm worst hln.out hx.out hz.out).mem_iff.1 (List.mem_cons_of_mem _ hy))
      have HT7 : Hid (Items w7 (some ⟨b, off + 2, none⟩) n l.tail) := (h.out.below k7.out).tail
      have hpt : Hid ((popL worst l).Perm l.tail) := by
        have h1 := pop_perm worst hln.out hx.out hz.out
        have h2 : l = x' :: l.tail := by
          have := hx.out
          cases l with
          | nil => simp at this
          | cons y r => simp at this; rw [this]; rfl
        rw [h2] at h1
        have h3 := h1.cons_inv
        rw [← h2] at h3
        exact h3
      go_wp2_with fail
      refine (resultsHeap_yes a5 n c5 worst _ _ (by omega) (HR7.out.drewN q) hPo hP).mono ?_
      rintro e w8 ⟨rfl, q2, rfl⟩
      go_wp2_with fail
      · refine (multi_yes a5 c5 (popL worst l) (some ⟨b, off, none⟩) 0 l.tail n _ (by omega) (HR7.out.drewN _) (items_zero _ _ (by omega) hln.out) hpt hPo).mono ?_
        rintro e w9 ⟨rfl, hb9⟩
        go_wp2_with fail
        go_ret
        exact ⟨rfl, k7.out.trans ((undrewN hb9).mono (by have := k7.out.size; omega))⟩
      · refine (multi_yes a5 c5 (popL worst l) (some ⟨b, off + 2, none⟩) (cap - 1) l.tail n _ (by omega) (HR7.out.drewN _) (HT7.out.drewN _) hpt hPo).mono ?_
        rintro e w9 ⟨rfl, hb9⟩
        go_wp2_with fail
        go_ret
        exact ⟨rfl, k7.out.trans ((undrewN hb9).mono (by have := k7.out.size; omega))⟩

end Go.Proofs.Qxb6617404a

/-
  THE LAW FnPushInsertsOnPathToNewLeaf: the walk.
-/
import Derived.Test.Qxb6617404aPath
import Derived.Test.Qxb6617404aLawC
import Derived.Deep.CutBlock
import Derived.Deep.DeepCutAuto
namespace Go.Proofs.Qxb6617404a
open Go.RowKit
attribute [local go_sem] run_store_float

/-- The path's row, filled from depth t on. -/
def Filled (n t : Nat) (f : Nat → Value) : Prop := ∀ s, t ≤ s → s ≤ dep n → f s = .int .i64 (pa n s)

theorem cell_far {w : World} {b i g j : Nat} (v : Value) (h : b ≠ g) : (w.setCell ⟨g, j, none⟩ v).cell? ⟨b, i, none⟩ = w.cell? ⟨b, i, none⟩ := by
  simp [World.cell?, Below.heap_setCell w ⟨g, j, none⟩ v b h]

set_option maxRecDepth 100000 in
set_option maxHeartbeats 2000000 in
theorem push_walk (a : Option Addr) (len cap : Nat) (worst : Bool) (r : It) (l : List It) (w : World) (hlen : len ≤ 9223372036854775807) (h : Hid (Items w a len l)) :
    Calls Try.prog 4 #[.slice a len cap, .bool worst, .agg #[.int .i32 r.id, .float .f32 r.sim]] w fun e w' => e = .returned (.bool true) ∧ Below w.heap.size w w' := by
  obtain ⟨w0, hw0⟩ : ∃ w0, w0 = w.alloc (.cells #[Value.int IntKind.i32 r.id, Value.float FloatKind.f32 r.sim] 30) := ⟨_, rfl⟩
  have k0 : Hid (Below w.heap.size w w0) := by rw [hw0]; exact (Below.refl _ _).alloc (Nat.le_refl _) _
  have hg0 : w0.heap[w.heap.size]? = some (.cells #[Value.int IntKind.i32 r.id, Value.float FloatKind.f32 r.sim] 30 (0, 0)) := by rw [hw0]; exact heap_alloc_new w _
  have hs0 : w0.heap.size = w.heap.size + 1 := by rw [hw0]; simp
  obtain ⟨r0, r1, _, _⟩ := pair_cells hg0
  have hI0 : Hid (Items w0 a len l) := h.out.below k0.out
  go_enter Try.func4, Try.ntmps4
  go_upto_region 1 with fail
  rw [← hw0]
  clear hw0 hg0
  go_wp2_with fail
  refine (bytes14 a len cap worst r w0 hlen).mono ?_
  rintro e w1 ⟨c, rfl, hb1⟩
  have k1 : Hid (Below w.heap.size w w1) := k0.out.trans (hb1.mono (by omega))
  have hr0 : w1.cell? ⟨w.heap.size, 0, none⟩ = some (.int .i32 r.id) := (hb1.cell (by show w.heap.size < _; omega)).trans r0
  have hr1 : w1.cell? ⟨w.heap.size, 1, none⟩ = some (.float .f32 r.sim) := (hb1.cell (by show w.heap.size < _; omega)).trans r1
  have hs1 : w.heap.size < w1.heap.size := by have := hb1.size; omega
  have hI1 : Hid (Items w1 a len l) := hI0.out.below hb1
  clear hb1 r0 r1 hI0 hs0
  cases c with
  | false =>
    go_wp2_with fail
    go_ret
    exact ⟨rfl, k1.out⟩
  | true =>
  by_cases q1 : 4096 < len
  · go_wp2_with fail
    go_ret
    exact ⟨rfl, k1.out⟩
  have l1 : len ≤ 4096 := by omega
  clear q1 hlen
  have hs := ne_self' r.sim
  cases hn : isNaN r.sim with
  | true =>
    rw [hn] at hs
    go_wp2_with fail
    go_ret
    exact ⟨rfl, k1.out⟩
  | false =>
  rw [hn] at hs
  have hrn : Hid (isNaN r.sim = false) := hn
  clear hn
  go_wp2_with fail
  refine (hasNaN_any a len cap l w1 (by omega) hI1).mono ?_
  rintro e w2 ⟨c, rfl, ⟨n1, rfl⟩, hnan⟩
  cases c with
  | true =>
    clear hnan
    go_wp2_with fail
    go_ret
    exact ⟨rfl, below_drewN k1.out _⟩
  | false =>
  have hok : Hid (Ok l) := hnan rfl
  clear hnan
  go_wp2_with fail
  refine (itemsHeap_any a len cap worst l _ (by omega) (hI1.out.drewN n1) hok).mono ?_
  rintro e w2 ⟨c, rfl, ⟨n2, rfl⟩, hhp⟩
  cases c with
  | false =>
    clear hhp
    go_wp2_with fail
    go_ret
    exact ⟨rfl, below_drewN k1.out _⟩
  | true =>
  have hheap : Hid (Heap worst l) := hhp rfl
  clear hhp hs
  go_wp2_with fail
  refine (toResults_any a len cap l _ (by omega) (hI1.out.drewN _)).mono ?_
  rintro e w3 ⟨rfl, hrow0, hb30⟩
  have hln : Hid (l.length = len) := hI1.out.1
  have hrow : Hid (Row2 w3 w1.heap.size 32 l) := hrow0
  have hb3 : Below w1.heap.size w1 w3 := undrewN hb30
  have hs3 : w1.heap.size < w3.heap.size := hrow.out.lt
  clear hrow0 hb30
  go_wp2_with fail
  refine (newHeap_any _ (some ⟨w1.heap.size, 0, none⟩) len len rfl worst _).mono ?_
  rintro e w4 ⟨rfl, hw4⟩
  have hH := heap_made (B := w1.heap.size) worst hrow.out (Nat.le_refl _) (by rw [hln.out]; unfold maxLen; omega)
  rw [hln.out, ← hw4] at hH
  have hk4 : Below w3.heap.size w3 w4 := by rw [hw4]; exact (Below.refl _ _).alloc (Nat.le_refl _) _
  have hs4 : w4.heap.size = w3.heap.size + 1 := by rw [hw4]; simp
  have hb4 : Below w1.heap.size w1 w4 := hb3.trans (hk4.mono (by omega))
  have r40 : w4.cell? ⟨w.heap.size, 0, none⟩ = some (.int .i32 r.id) := (hb4.cell (by exact hs1)).trans hr0
  have r41 : w4.cell? ⟨w.heap.size, 1, none⟩ = some (.float .f32 r.sim) := (hb4.cell (by exact hs1)).trans hr1
  have HH4 : Hid (HeapAt w4 w1.heap.size w3.heap.size (.slice (some ⟨w1.heap.size, 0, none⟩) len len) worst l) := hH
  have HB4 : Hid (Below w1.heap.size w1 w4) := hb4
  have hl8 : l.length ≤ 8192 := by rw [hln.out]; omega
  clear hw4 hH hk4 hb3 hb4
  go_wp2_with fail
  refine (pushShim_any w1.heap.size w3.heap.size _ worst l r w4 HH4 (by omega) hl8).mono ?_
  rintro e w5 ⟨rfl, v, hH5, hM5⟩
  have hb5 : Below w1.heap.size w1 w5 := HB4.out.trans (hM5.below (by omega) (by omega) (fun g e => HH4.out.owned_ge g e))
  have hRl : Hid ((pushL worst l r).length = len + 1) := by
    show _ = _
    rw [(push_perm worst l r).length_eq, List.length_append, hln.out]; rfl
  have hokR : Hid (Ok (pushL worst l r)) := fun y hy => by
    rcases List.mem_append.1 ((push_perm worst l r).mem_iff.1 hy) with h1 | h1
    · exact hok.out y h1
    · simp at h1; rw [h1]; exact hrn.out
  have hheapR : Hid (Heap worst (pushL worst l r)) := push_heap worst l r hok.out hrn.out hheap.out
  obtain ⟨a5, c5, rfl, hv5, hvc, hvm⟩ := hH5.view
  rw [hRl.out] at hv5 hvc
  have hc5 := hH5.c0
  rw [hRl.out] at hc5
  have HR5 : Hid (Items w5 a5 (len + 1) (pushL worst l r)) := hv5
  have k5 : Hid (Below w.heap.size w w5) := k1.out.trans (hb5.mono (by omega))
  have hr5 : Hid (w5.cell? ⟨w.heap.size, 0, none⟩ = some (.int .i32 r.id) ∧ w5.cell? ⟨w.heap.size, 1, none⟩ = some (.float .f32 r.sim)) := ⟨(hb5.cell (by exact hs1)).trans hr0, (hb5.cell (by exact hs1)).trans hr1⟩
  have hI5 : Hid (Items w5 a len l) := hI1.out.below hb5
  have hs5 : w.heap.size < w5.heap.size := by have := hb5.size; omega
  clear hv5 hH5 hM5 hb5 hr0 hr1 r40 r41 hI1 HB4 HH4 hrow hs4 hs3
  go_wp2_with fail
  refine (items_any w3.heap.size _ w5 hc5).mono ?_
  rintro e w7 ⟨rfl, hw7⟩
  subst w7
  clear hc5
  have hmk : ∀ wx : World, (Instr.makeSlice 22 (.int .i64 ((len : Int) + 1)) (.int .i64 ((len : Int) + 1))).run Try.prog wx = .ok (.slice (some ⟨wx.heap.size, 0, none⟩) (len + 1) (len + 1)) (wx.alloc (.cells (cellsOf (List.replicate (len + 1) z0)).toArray 30)) := make_two 22 30 Try.underlying22 Try.info30 (len + 1) (by omega)
  obtain ⟨gw, hgw⟩ : ∃ gw, gw = w5.heap.size := ⟨_, rfl⟩
  obtain ⟨w6, hw6⟩ : ∃ w6, w6 = w5.alloc (.cells (cellsOf (List.replicate (len + 1) z0)).toArray 30) := ⟨_, rfl⟩
  have hW6 : Hid (Row2 w6 gw 30 (List.replicate (len + 1) z0)) := by rw [hw6, hgw]; exact Row2.made w5 30 _
  have hb6 : Hid (Below w5.heap.size w5 w6) := by rw [hw6]; exact (Below.refl _ _).alloc (Nat.le_refl _) _
  go_wp2_with fail
  rw [← hw6, ← hgw]
  have hge : w5.heap.size ≤ gw := by omega
  clear hmk hw6 hgw
  go_wp2_with fail
  go_loopw [11] (fun i wr => ∃ (k : Nat) (G : List It), k ≤ len ∧ i = .int .i64 k ∧ Hid (G.length = len + 1) ∧ Hid (Row2 wr gw 30 G) ∧ Hid (∀ j, j < k → G[j]? = l[j]?) ∧ Hid (Below w5.heap.size w5 wr)) (fun i _ => len - (intOf i).toNat)
  case atStart => exact ⟨0, _, Nat.zero_le _, rfl, by show (List.replicate (len + 1) z0).length = len + 1; simp, hW6, fun j hj => by omega, hb6⟩
  case round =>
    obtain ⟨k, G, hk, rfl, hGl, hG, hGe, hbel⟩ := hrel
    obtain ⟨y, hy⟩ : ∃ y, G[k]? = some y := ⟨_, List.getElem?_eq_getElem (by rw [hGl.out]; omega)⟩
    obtain ⟨d0, d1, f0, f1⟩ := hG.out.at hy
    clear hy
    by_cases hlt : k < len
    · obtain ⟨b, off, x, rfl, hb, hgx, hx0', hx1'⟩ := hI5.out.at hlt
      have hi0 : wr.cell? ⟨b, off + k * 2, none⟩ = some (.int .i32 x.id) := (hbel.out.cell (by exact hb)).trans hx0'
      have hi1 : wr.cell? ⟨b, off + k * 2 + 1, none⟩ = some (.float .f32 x.sim) := (hbel.out.cell (by exact hb)).trans hx1'
      have i1 : (k : Int) < (len : Int) := by omega
      have i2 : (k : Int) < (len : Int) + 1 := by omega
      have HX : Hid (l[k]? = some x) := hgx
      clear hgx hx0' hx1'
      go_wp2_with fail
      go_roundw
      case rel =>
        refine ⟨k + 1, G.set k x, by omega, by go_num, by show _ = _; rw [List.length_set]; exact hGl.out, hG.out.put k x, fun j hj => ?_, (hbel.out.setCell (by show w5.heap.size ≤ gw; omega) _).setCell (by show w5.heap.size ≤ gw; omega) _⟩
        rw [List.getElem?_set]
        by_cases e : k = j
        · subst e; rw [if_pos rfl, if_pos (by rw [hGl.out]; omega), HX.out]
        · rw [if_neg e]; exact hGe.out j (by omega)
      case measure => simp [intOf]; omega
    · obtain rfl : k = len := by omega
      have hfin : Hid (G.set k r = l ++ [r]) := by
        show _ = _
        apply List.ext_getElem?
        intro j
        rw [List.getElem?_set]
        have hl := hln.out
        by_cases e : k = j
        · subst e
          rw [if_pos rfl, if_pos (by rw [hGl.out]; omega), List.getElem?_append_right (by omega)]
          simp [hl]
        · rw [if_neg e]
          by_cases hj : j < k
          · rw [hGe.out j hj, List.getElem?_append_left (by omega)]
          · rw [List.getElem?_eq_none (by rw [hGl.out]; omega), List.getElem?_eq_none (by rw [List.length_append]; simp; omega)]
      obtain ⟨q0, q1⟩ := hr5.out
      have hr0 : wr.cell? ⟨w.heap.size, 0, none⟩ = some (.int .i32 r.id) := (hbel.out.cell (by exact hs5)).trans q0
      have hr1 : wr.cell? ⟨w.heap.size, 1, none⟩ = some (.float .f32 r.sim) := (hbel.out.cell (by exact hs5)).trans q1
      obtain ⟨wA, hwA⟩ : ∃ wA, wA = (wr.setCell ⟨gw, k * 2, none⟩ (.int .i32 r.id)).setCell ⟨gw, k * 2 + 1, none⟩ (.float .f32 r.sim) := ⟨_, rfl⟩
      have hWA : Hid (Row2 wA gw 30 (l ++ [r])) := by rw [← hfin.out, hwA]; exact hG.out.put k r
      have hbA : Hid (Below w5.heap.size w5 wA) := by rw [hwA]; exact (hbel.out.setCell (by show w5.heap.size ≤ gw; omega) _).setCell (by show w5.heap.size ≤ gw; omega) _
      clear q0 q1 hG hbel hGe hGl hfin
      go_upto_region 21 with fail
      rw [← hwA]
      clear hwA d0 d1 f0 f1 hr0 hr1
      go_wp2_with fail
      go_loopw [12, 13] (fun mv pv wr => ∃ (mm p : Nat), mv = .int .i64 mm ∧ pv = .int .i64 p ∧ p ≤ k ∧ Hid (mm + dep p = dep k + 1) ∧ wr = wA) (fun _ pv _ => (intOf pv).toNat)
      case atStart => exact ⟨1, k, rfl, rfl, Nat.le_refl _, by show _ = _; omega, rfl⟩
      case round =>
        obtain ⟨mm, p, rfl, rfl, hp, hmm, rfl⟩ := hrel
        have hdk := dep_le k
        have hmb : mm ≤ 4097 := by have := hmm.out; omega
        rcases Nat.eq_zero_or_pos p with h0 | h0
        · subst h0
          obtain ⟨D, hD⟩ : ∃ D, D = dep k := ⟨_, rfl⟩
          obtain rfl : mm = D + 1 := by have := hmm.out; rw [dep_zero] at this; omega
          have HD : Hid (D = dep k) := hD
          have hD4 : D ≤ 4096 := by omega
          clear hdk hmb hmm hD
          have hmkp : ∀ wx : World, (Instr.makeSlice 41 (.int .i64 ((D : Int) + 1)) (.int .i64 ((D : Int) + 1))).run Try.prog wx = .ok (.slice (some ⟨wx.heap.size, 0, none⟩) (D + 1) (D + 1)) (wx.alloc (.cells (madeCells #[.int .i64 0] (D + 1)) 3)) := run_make_row' (P := Try.prog) 41 3 (.int .i64 0) 8 Try.underlying41 Try.info3 rfl .i64 .i64 (D + 1) (by omega) (by omega)
          obtain ⟨gq, hgq⟩ : ∃ gq, gq = wr.heap.size := ⟨_, rfl⟩
          obtain ⟨w8, hw8⟩ : ∃ w8, w8 = wr.alloc (.cells (madeCells #[.int .i64 0] (D + 1)) 3) := ⟨_, rfl⟩
          have hP8 : Hid (w8.rowIs gq 3 (D + 1) (fun _ => .int .i64 0)) := by rw [hw8, hgq]; exact World.rowIs_made wr _ _ _
          have hk8 : Below wr.heap.size wr w8 := by rw [hw8]; exact (Below.refl _ _).alloc (Nat.le_refl _) _
          have hgl : gw < gq := by rw [hgq]; exact hWA.out.lt
          have hW8 : Hid (Row2 w8 gw 30 (l ++ [r])) := hWA.out.kept (hk8.block _ (by omega))
          have hb8 : Hid (Below w5.heap.size w5 w8) := hbA.out.trans (hk8.mono hbA.out.size)
          clear hk8
          go_wp2_with fail
          rw [← hw8, ← hgq]
          clear hmkp hw8 hgq hWA hbA
          go_wp2_with fail
          go_loopw [15, 16] (fun pv jv wr => ∃ (t p : Nat) (f : Nat → Value), jv = .int .i64 ((t : Int) - 1) ∧ pv = .int .i64 p ∧ t ≤ D + 1 ∧ p ≤ k ∧ Hid (∀ s, t = s + 1 → p = pa k s) ∧ Hid (wr.rowIs gq 3 (D + 1) f) ∧ Hid (Filled k t f) ∧ Hid (Row2 wr gw 30 (l ++ [r])) ∧ Hid (Below w5.heap.size w5 wr)) (fun _ jv _ => (intOf jv + 1).toNat)
          case atStart => exact ⟨D + 1, k, _, by go_num, rfl, Nat.le_refl _, Nat.le_refl _, fun s hs => by obtain rfl : s = dep k := (by have := HD.out; omega); rw [pa_last], hP8, fun s hs hs2 => by have := HD.out; omega, hW8, hb8⟩
          case round =>
            clear hP8 hW8 hb8
            obtain ⟨t, p, f, rfl, rfl, ht, hp, hpe, hrow, hfil, hW, hbel⟩ := hrel
            cases t with
            | zero =>
              have hj0 : (((0 : Nat) : Int) - 1) = -1 := by omega
              rw [hj0]
              have hfil0 : Hid (∀ s, s ≤ D → wr.cell? ⟨gq, s, none⟩ = some (.int .i64 (pa k s : Nat))) := fun s hs => by
                have hDD := HD.out
                rw [hrow.out.cell (by omega), hfil.out s (by omega) (by omega)]
              have hI : Hid (Items wr a k l) := hI5.out.below hbel.out
              obtain ⟨q0, q1⟩ := hr5.out
              have hr0 : wr.cell? ⟨w.heap.size, 0, none⟩ = some (.int .i32 r.id) := (hbel.out.cell (by exact hs5)).trans q0
              have hr1 : wr.cell? ⟨w.heap.size, 1, none⟩ = some (.float .f32 r.sim) := (hbel.out.cell (by exact hs5)).trans q1
              clear q0 q1 hfil
              go_upto_block 6 with fail
              go_cut [17, 18] from 109 to 127 (fun kv _ wx => ∃ (K q : Nat), kv = .int .i64 K ∧ K ≤ D ∧ Hid (∀ j y, j < K → l[pa k j]? = some y → bf worst r.sim y.sim = false) ∧ Hid (∀ y, K < D → l[pa k K]? = some y → bf worst r.sim y.sim = true) ∧ wx = wr.drewN q)
              case first =>
                go_wp2_with fail
                go_loopw [17, 18] (fun kv jv wx => ∃ (j q : Nat), kv = .int .i64 D ∧ jv = .int .i64 j ∧ j ≤ D ∧ Hid (∀ i y, i < j → l[pa k i]? = some y → bf worst r.sim y.sim = false) ∧ wx = wr.drewN q) (fun _ jv _ => D - (intOf jv).toNat)
                case atStart => exact ⟨0, 0, by go_num, rfl, Nat.zero_le _, fun i y hi => by omega, rfl⟩
                case round =>
                  obtain ⟨j, q, rfl, rfl, hj, hno, rfl⟩ := hrel
                  by_cases hlt4 : j < D
                  · have hpl : pa k j < k := pa_lt (by have := HD.out; omega)
                    have hcj := hfil0.out j (by omega)
                    obtain ⟨b, off, y, rfl, hb, hgy, _, hy1⟩ := hI.out.at hpl
                    have HY : Hid (∀ y', l[pa k j]? = some y' → y' = y) := fun y' hy' => (Option.some.inj (hgy.symm.trans hy')).symm
                    obtain ⟨pj, hpj⟩ : ∃ pj, pj = pa k j := ⟨_, rfl⟩
                    rw [← hpj] at hcj hy1 hpl
                    clear hgy hpj
                    have i1 : (j : Int) < (D : Int) := by omega
                    have i2 : (j : Int) < (D : Int) + 1 := by omega
                    have i3 : (pj : Int) < (k : Int) := by omega
                    cases hbf : bf worst r.sim y.sim with
                    | true =>
                      have HBF : Hid (bf worst r.sim y.sim = true) := hbf
                      clear hbf
                      go_wp2_with fail
                      go_quiet ((go_at_call 12; refine (hbBefore_any worst r.sim y.sim _).mono ?_; rintro e w'' ⟨rfl, rfl⟩; exact ⟨rfl, _, rfl⟩))
                      rw [HBF.out]
                      go_wp2_with fail
                      go_meet
                      exact ⟨j, q + nq, rfl, by omega, hno, fun y' _ hy' => by rw [HY.out y' hy']; exact HBF.out, by simp⟩
                    | false =>
                      have HBF : Hid (bf worst r.sim y.sim = false) := hbf
                      clear hbf
                      go_wp2_with fail
                      go_quiet ((go_at_call 12; refine (hbBefore_any worst r.sim y.sim _).mono ?_; rintro e w'' ⟨rfl, rfl⟩; exact ⟨rfl, _, rfl⟩))
                      rw [HBF.out]
                      go_wp2_with fail
                      go_roundw
                      case rel => exact ⟨j + 1, q + nq, rfl, by go_num, by omega, fun i y' hi hy' => by
                          by_cases e : i = j
                          · subst e; rw [HY.out y' hy']; exact HBF.out
                          · exact hno.out i y' (by omega) hy', rfl⟩
                      case measure => simp [intOf]; omega
                  · obtain rfl : j = D := by omega
                    go_wp2_with fail
                    go_meet
                    exact ⟨j, q, rfl, Nat.le_refl _, hno, fun y' h => by omega, rfl⟩
              case rest =>
                obtain ⟨K, q, rfl, hK, hno, hyes, hwc⟩ := hcut
                have hfil1 : Hid (∀ s, s ≤ D → wc.cell? ⟨gq, s, none⟩ = some (.int .i64 (pa k s : Nat))) := by rw [hwc]; exact hfil0.out
                have hW1 : Hid (Row2 wc gw 30 (l ++ [r])) := by rw [hwc]; exact hW.out
                have hb1 : Hid (Below w5.heap.size w5 wc) := by rw [hwc]; exact below_drewN hbel.out _
                have hgql : gq < wc.heap.size := by rw [hwc]; exact hrow.out.lt
                have hAl : Hid (Along worst l r D (l ++ [r])) := by
                  have := along_start worst l r
                  rw [hln.out, ← HD.out] at this
                  exact this
                clear hwc hfil0 hW hbel hrow hr0 hr1 hI
                go_wp2_with fail
                go_loopw [19] (fun jv wr => ∃ (j : Nat) (G : List It), jv = .int .i64 j ∧ K ≤ j ∧ j ≤ D ∧ Hid (Along worst l r j G) ∧ Hid (Row2 wr gw 30 G) ∧ Hid (∀ s, s ≤ D → wr.cell? ⟨gq, s, none⟩ = some (.int .i64 (pa k s : Nat))) ∧ Hid (Below w5.heap.size w5 wr)) (fun jv _ => (intOf jv).toNat)
                case atStart => exact ⟨D, _, by go_num, hK, Nat.le_refl _, hAl, hW1, hfil1, hb1⟩
                case round =>
                  clear hW1 hfil1 hb1 hAl
                  obtain ⟨j, G, rfl, hKj, hjD, hAl, hG, hfil, hbel⟩ := hrel
                  have hGl : Hid (G.length = k + 1) := by show _ = _; rw [hAl.out.1, hln.out]
                  have hI : Hid (Items wr a k l) := hI5.out.below hbel.out
                  obtain ⟨pj, hpj⟩ : ∃ pj, pj = pa k j := ⟨_, rfl⟩
                  have hple : pj ≤ k := by rw [hpj]; exact pa_le k j
                  have hcj := hfil.out j hjD
                  rw [← hpj] at hcj
                  have HPJ : Hid (pj = pa k j) := hpj
                  obtain ⟨z, hz⟩ : ∃ z, G[pj]? = some z := ⟨_, List.getElem?_eq_getElem (by rw [hGl.out]; omega)⟩
                  obtain ⟨d0, d1, f0, f1⟩ := hG.out.at hz
                  have i1 : (j : Int) < (D : Int) + 1 := by omega
                  have i2 : (pj : Int) < (k : Int) + 1 := by omega
                  clear hz hpj
                  by_cases hlt5 : K < j
                  · obtain ⟨i, rfl⟩ : ∃ i, j = i + 1 := ⟨j - 1, by omega⟩
                    have hji : ((i + 1 : Nat) : Int) - 1 = (i : Int) := by omega
                    have hpl : pa k i < k := pa_lt (by have := HD.out; omega)
                    have hci := hfil.out i (by omega)
                    obtain ⟨b, off, y, rfl, hb, hgy, hy0, hy1⟩ := hI.out.at hpl
                    have hbf : bf worst r.sim y.sim = true := by
                      have hKD : K < D := by omega
                      obtain ⟨yK, hyK⟩ : ∃ y, l[pa k K]? = some y := ⟨_, List.getElem?_eq_getElem (by rw [hln.out]; exact pa_lt (by have := HD.out; omega))⟩
                      have h1 := hyes.out yK hKD hyK
                      rw [bf_kk worst hrn.out (hok.out.at hyK)] at h1
                      rw [bf_kk worst hrn.out (hok.out.at hgy)]
                      have h2 := of_decide_eq_true h1
                      have h3 := path_mono (worst := worst) (l := l) (s := K) (x := yK) hheap.out (by rw [hln.out]; exact hyK) (i - K) y (by rw [hln.out]; have := HD.out; omega) (by rw [hln.out, show K + (i - K) = i from by omega]; exact hgy)
                      exact decide_eq_true (by omega)
                    have hAl2 : Hid (Along worst l r i (G.set pj y)) := by
                      have := along_step (worst := worst) (l := l) (r := r) (y := y) (j := i) (G := G) hAl.out (by rw [hln.out]; have := HD.out; omega) (by rw [hln.out]; exact hgy) hbf
                      rw [hln.out, ← HPJ.out] at this
                      exact this
                    obtain ⟨pi', hpi'⟩ : ∃ q, q = pa k i := ⟨_, rfl⟩
                    rw [← hpi'] at hci hy0 hy1 hpl
                    clear hgy hbf hpi'
                    have i3 : (pi' : Int) < (k : Int) := by omega
                    have i4 : (i : Int) < (D : Int) + 1 := by omega
                    have i5 : (K : Int) < (i : Int) + 1 := by omega
                    have hbw : b ≠ gw := by
                      intro e
                      have h1 := hI5.out.2 (by omega)
                      obtain ⟨b', o', h2, h3, _⟩ := h1
                      cases h2
                      omega
                    have hqw : gq ≠ gw := by omega
                    go_wp2_with fail
                    go_region
                    go_wp2_with fail
                    go_roundw
                    case rel =>
                      exact ⟨i, G.set pj y, by go_num, by omega, by omega, hAl2, (hG.out.put pj y : Row2 _ _ _ _), fun s hs => (cell_far _ hqw).trans ((cell_far _ hqw).trans (hfil.out s hs)), ((hbel.out.setCell (by show w5.heap.size ≤ gw; omega) _).setCell (by show w5.heap.size ≤ gw; omega) _).drew⟩
                    case measure => simp [intOf]
                  · obtain rfl : j = K := by omega
                    have hend : Hid (G.set pj r = pushL worst l r) := by
                      have := along_end (worst := worst) (l := l) (r := r) (k := j) (G := G) hAl.out (by rw [hln.out]; have := HD.out; omega) (fun i y hi hy => hno.out i y (by omega) (by rw [hln.out] at hy; exact hy))
                      rw [hln.out, ← HPJ.out] at this
                      exact this
                    obtain ⟨q0, q1⟩ := hr5.out
                    have hr0 : wr.cell? ⟨w.heap.size, 0, none⟩ = some (.int .i32 r.id) := (hbel.out.cell (by exact hs5)).trans q0
                    have hr1 : wr.cell? ⟨w.heap.size, 1, none⟩ = some (.float .f32 r.sim) := (hbel.out.cell (by exact hs5)).trans q1
                    obtain ⟨wB, hwB⟩ : ∃ wB, wB = ((wr.setCell ⟨gw, pj * 2, none⟩ (.int .i32 r.id)).setCell ⟨gw, pj * 2 + 1, none⟩ (.float .f32 r.sim)).drew := ⟨_, rfl⟩
                    have hRB : Hid (Row2 wB gw 30 (pushL worst l r)) := by rw [← hend.out, hwB]; exact (hG.out.put pj r : Row2 _ _ _ _)
                    have hbB : Hid (Below w5.heap.size w5 wB) := by rw [hwB]; exact ((hbel.out.setCell (by show w5.heap.size ≤ gw; omega) _).setCell (by show w5.heap.size ≤ gw; omega) _).drew
                    have HRB : Hid (Items wB a5 (k + 1) (pushL worst l r)) := HR5.out.below hbB.out
                    have kB : Hid (Below w.heap.size w wB) := k5.out.trans (hbB.out.mono (by omega))
                    clear q0 q1 hno hyes hend hAl
                    go_wp2_with fail
                    go_region
                    go_upto_region 45 with fail
                    rw [← hwB]
                    clear hwB hr0 hr1 d0 d1 f0 f1 hG hbel hfil hcj hI
                    go_wp2_with fail
                    go_loopw [20] (fun iv wr => ∃ i : Nat, iv = .int .i64 i ∧ i ≤ k + 1 ∧ Hid (Below wB.heap.size wB wr)) (fun iv _ => k + 1 - (intOf iv).toNat)
                    case atStart => exact ⟨0, rfl, Nat.zero_le _, Below.refl _ _⟩
                    case round =>
                      obtain ⟨i, rfl, hi, hbel⟩ := hrel
                      by_cases hlt6 : i < k + 1
                      · obtain ⟨b, off, x, rfl, hb, hgx, hx0', hx1'⟩ := HRB.out.at hlt6
                        obtain ⟨hw0', hw1', _, _⟩ := hRB.out.at hgx
                        have hwl : gw < wB.heap.size := hRB.out.lt
                        have hx0 : wr.cell? ⟨b, off + i * 2, none⟩ = some (.int .i32 x.id) := (hbel.out.cell (by exact hb)).trans hx0'
                        have hx1 : wr.cell? ⟨b, off + i * 2 + 1, none⟩ = some (.float .f32 x.sim) := (hbel.out.cell (by exact hb)).trans hx1'
                        have hw0 : wr.cell? ⟨gw, i * 2, none⟩ = some (.int .i32 x.id) := (hbel.out.cell (by exact hwl)).trans hw0'
                        have hw1 : wr.cell? ⟨gw, i * 2 + 1, none⟩ = some (.float .f32 x.sim) := (hbel.out.cell (by exact hwl)).trans hw1'
                        have hxn : Hid (isNaN x.sim = false) := hokR.out.at hgx
                        have hsz := hbel.out.size
                        have i1' : (i : Int) ≤ (k : Int) := by omega
                        have i2' : (i : Int) < (k : Int) + 1 := by omega
                        clear hgx hx0' hx1' hw0' hw1'
                        go_wp2_with fail
                        go_region_held3 (fun w' => w'.cell? ⟨b, off + i * 2, none⟩ = some (.int .i32 x.id) ∧ w'.cell? ⟨b, off + i * 2 + 1, none⟩ = some (.float .f32 x.sim) ∧ w'.cell? ⟨gw, i * 2, none⟩ = some (.int .i32 x.id) ∧ w'.cell? ⟨gw, i * 2 + 1, none⟩ = some (.float .f32 x.sim))
                          (first
                            | go_keep
                            | (go_split_ands
                               exact ⟨(hb2.cell (by show b < wr.heap.size; omega)).trans hx0, (hb2.cell (by show b < wr.heap.size; omega)).trans hx1, (hb2.cell (by show gw < wr.heap.size; omega)).trans hw0, (hb2.cell (by show gw < wr.heap.size; omega)).trans hw1⟩))
                          ((go_at_call 17; refine (sameItem_any x x _ hxn.out hxn.out).mono ?_; rintro e w2 ⟨rfl, hb2⟩))
                        have hk2 : Hid (Below wB.heap.size wB w2) := hbel.out.trans ((undrew hb2).mono hsz)
                        rw [sameI_refl]
                        clear hb2 hx0 hx1 hw0 hw1
                        go_wp2_with fail
                        go_roundw
                        case rel =>
                          repeat apply Exists.intro
                          exact ⟨⟨i + 1, by go_num, by omega, hk2⟩, rfl⟩
                        case measure => simp [intOf]; omega
                      · have hni : ¬ (i : Int) ≤ (k : Int) := by omega
                        go_wp2_with fail
                        refine (resultsHeap_yes a5 (k + 1) c5 worst _ _ (by omega) (HRB.out.below hbel.out) hokR hheapR).mono ?_
                        rintro e w9 ⟨rfl, q2, rfl⟩
                        go_wp2_with fail
                        go_ret
                        exact ⟨rfl, below_drewN (kB.out.trans (hbel.out.mono kB.out.size)) _⟩
            | succ s =>
              have hj0 : (((s + 1 : Nat) : Int) - 1) = (s : Int) := by omega
              rw [hj0]
              have hcs : wr.cell? ⟨gq, s, none⟩ = some (f s) := hrow.out.cell (by omega)
              have hfs : wr.frozen? ⟨gq, s, none⟩ = false := hrow.out.frozen s
              have hps : Hid (p = pa k s) := hpe.out s rfl
              have hds : Hid (dep p = s) := by show _ = _; rw [hps.out]; exact dep_pa (by have := HD.out; omega)
              have i1 : (s : Int) < (D : Int) + 1 := by omega
              have hfil2 : Hid (Filled k s (fun j => if j = s then .int .i64 (p : Int) else f j)) := fun q hq1 hq2 => by
                by_cases e : q = s
                · subst e; simp only [if_true]; rw [hps.out]
                · simp only [if_neg e]; exact hfil.out q (by omega) hq2
              rcases Nat.eq_zero_or_pos p with h0 | h0
              · subst h0
                have hs0 : s = 0 := by have := hds.out; rw [dep_zero] at this; omega
                subst hs0
                go_wp2_with fail
                go_roundw
                case rel => exact ⟨0, 0, _, by go_num, rfl, by omega, by omega, fun s hs => by omega, hrow.out.set 0 _, hfil2, hW.out.kept (Below.heap_setCell _ _ _ _ (by show gw ≠ gq; omega)), hbel.out.setCell (by show w5.heap.size ≤ gq; omega) _⟩
                case measure => simp [intOf]
              · have hpi : ((p : Int) - 1) / 2 = ((anc p : Nat) : Int) := by unfold anc; omega
                have hal := anc_lt h0
                have hnx : Hid (∀ q, s = q + 1 → anc p = pa k q) := fun q hq => pa_of_dep (by have := HD.out; omega) (by rw [← hq]; exact hps.out)
                generalize anc p = p' at *
                go_wp2_with fail
                go_roundw
                case rel => exact ⟨s, p', _, by go_num, by go_num, by omega, by omega, hnx, hrow.out.set s _, hfil2, hW.out.kept (Below.heap_setCell _ _ _ _ (by show gw ≠ gq; omega)), hbel.out.setCell (by show w5.heap.size ≤ gq; omega) _⟩
                case measure => simp [intOf]
        · have hpi : ((p : Int) - 1) / 2 = ((anc p : Nat) : Int) := by unfold anc; omega
          have hal := anc_lt h0
          have hdp : Hid (dep p = dep (anc p) + 1) := dep_pos h0
          generalize anc p = p' at *
          go_wp2_with fail
          go_roundw
          case rel => exact ⟨mm + 1, p', by go_num, by go_num, by omega, by show _ = _; have := hmm.out; have := hdp.out; omega, by first | rfl | trivial⟩
          case measure => simp [intOf]; omega

end Go.Proofs.Qxb6617404a

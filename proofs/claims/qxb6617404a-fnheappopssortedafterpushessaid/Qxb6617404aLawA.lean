/-
  THE LAW FnHeapPopsSortedAfterPushes: the walk.
-/
import Derived.Test.Qxb6617404aSort
import Derived.Test.Qxb6617404aLawC
namespace Go.Proofs.Qxb6617404a
open Go.RowKit
attribute [local go_sem] run_store_float

theorem take_succ_snoc {l : List It} {k : Nat} {x : It} (h : l[k]? = some x) : l.take (k + 1) = l.take k ++ [x] := by
  rw [List.take_add_one, h]; rfl

theorem HeapAt.own_ge {w : World} {B hb : Nat} {v : Value} {worst : Bool} {l : List It} (h : HeapAt w B hb v worst l) (g : Nat) (e : v.ownBlock = some g) : B ≤ g := by
  rcases h.own.2 with ⟨hv, _⟩ | ⟨q, cap, cur, hv, hB, _⟩
  · rw [hv] at e; cases e
  · rw [hv] at e; cases e; exact hB

theorem HeapAt.lt_size {w : World} {B hb : Nat} {v : Value} {worst : Bool} {l : List It} (h : HeapAt w B hb v worst l) : hb < w.heap.size := World.block_lt_of_cell? _ _ h.c0

theorem eq_key' (worst : Bool) (x y : Nat) (hx : isNaN x = false) (hy : isNaN y = false) (h : key worst x = key worst y) : (FloatKind.f32.format.order x y != some .eq) = false := eq_of_key worst x y hx hy h

set_option maxRecDepth 100000 in
set_option maxHeartbeats 2000000 in
theorem sort_walk (a : Option Addr) (len cap : Nat) (worst : Bool) (l : List It) (w : World) (hlen : len ≤ 9223372036854775807) (h : Hid (Items w a len l)) :
    Calls Try.prog 3 #[.slice a len cap, .bool worst] w fun e w' => e = .returned (.bool true) ∧ Below w.heap.size w w' := by
  go_enter Try.func3, Try.ntmps3
  go_wp2_with fail
  refine (bytes6 a len cap worst w hlen).mono ?_
  rintro e w1 ⟨c, rfl, hw, _⟩
  subst w1
  cases c with
  | false =>
    go_wp2_with fail
    go_ret
    exact ⟨rfl, Below.refl _ _⟩
  | true =>
  by_cases q1 : 4096 < len
  · go_wp2_with fail
    go_ret
    exact ⟨rfl, Below.refl _ _⟩
  have l1 : len ≤ 4096 := by omega
  clear q1 hlen
  go_wp2_with fail
  refine (hasNaN_any a len cap l w (by omega) h).mono ?_
  rintro e w1 ⟨c, rfl, ⟨n1, rfl⟩, hnan⟩
  cases c with
  | true =>
    clear hnan
    go_wp2_with fail
    go_ret
    exact ⟨rfl, below_drewN (Below.refl _ _) _⟩
  | false =>
  have hok : Hid (Ok l) := hnan rfl
  have hln : Hid (l.length = len) := h.out.1
  clear hnan
  go_wp2_with fail
  refine (newHeap_any (.slice none 0 0) none 0 0 rfl worst _).mono ?_
  rintro e w4 ⟨rfl, hw4⟩
  have hH4 : Hid (HeapAt w4 w.heap.size w.heap.size (.slice none 0 0) worst []) := by rw [hw4]; exact heap_empty (w.drewN n1) worst
  have hk4 : Hid (Below w.heap.size w w4) := by rw [hw4]; exact (below_drewN (Below.refl _ _) n1).alloc (Nat.le_refl _) _
  clear hw4
  go_wp2_with fail
  go_loopw [7] (fun i wr => ∃ (k : Nat) (v : Value) (L : List It), k ≤ len ∧ i = .int .i64 k ∧ Hid (HeapAt wr w.heap.size w.heap.size v worst L) ∧ Hid (Heap worst L) ∧ Hid (L.Perm (l.take k)) ∧ Hid (Below w.heap.size w wr)) (fun i _ => len - (intOf i).toNat)
  case atStart => exact ⟨0, _, [], Nat.zero_le _, rfl, hH4, heap_nil worst, by show List.Perm _ _; simp, hk4⟩
  case round =>
    obtain ⟨k, v, L, hk, rfl, hH, hheap, hperm, hbel⟩ := hrel
    by_cases hlt : k < len
    · obtain ⟨b, off, x, rfl, hb, hgx, hx0', hx1'⟩ := h.out.at hlt
      have hi0 : wr.cell? ⟨b, off + k * 2, none⟩ = some (.int .i32 x.id) := (hbel.out.cell (by exact hb)).trans hx0'
      have hi1 : wr.cell? ⟨b, off + k * 2 + 1, none⟩ = some (.float .f32 x.sim) := (hbel.out.cell (by exact hb)).trans hx1'
      have i1 : (k : Int) < (len : Int) := by omega
      have HX : Hid (l[k]? = some x) := hgx
      have hLk : L.length ≤ 8192 := by rw [hperm.out.length_eq, List.length_take]; omega
      have hsz : w.heap.size ≤ wr.heap.size := hbel.out.size
      clear hgx hx0' hx1'
      go_wp2_with fail
      go_region_held3 (fun w' => w'.cell? ⟨b, off + k * 2, none⟩ = some (.int .i32 x.id) ∧ w'.cell? ⟨b, off + k * 2 + 1, none⟩ = some (.float .f32 x.sim))
        (first
          | go_keep
          | (go_split_ands
             exact ⟨(hb2.cell (by exact hb)).trans hi0, (hb2.cell (by exact hb)).trans hi1⟩))
        ((go_at_call 9; refine (pushShim_any w.heap.size w.heap.size v worst L x _ (hH.out.drew) hsz hLk).mono ?_; rintro e w2 ⟨rfl, v2, hH2, hM2⟩; have hb2 : Below w.heap.size wr.drew w2 := hM2.below hsz (Nat.le_refl _) (fun g e => hH.out.own_ge g e)))
      have hH2' : Hid (HeapAt w2 w.heap.size w.heap.size v2 worst (pushL worst L x)) := hH2
      have hb3 : Hid (Below w.heap.size w w2) := hbel.out.trans ⟨hb2.os, hb2.tape, hb2.output, hb2.size, hb2.block⟩
      have hp2 : Hid ((pushL worst L x).Perm (l.take (k + 1))) := by
        show List.Perm _ _
        rw [take_succ_snoc HX.out]
        exact (push_perm worst L x).trans (hperm.out.append_right _)
      have hh2 : Hid (Heap worst (pushL worst L x)) := push_heap worst L x (fun y hy => hok.out y (List.mem_of_mem_take (hperm.out.mem_iff.1 hy))) (hok.out.at HX.out) hheap.out
      clear hH2 hM2 hb2 hi0 hi1
      go_wp2_with fail
      go_roundw
      case rel => exact ⟨k + 1, v2, pushL worst L x, by omega, by go_num, hH2', hh2, hp2, hb3⟩
      case measure => simp [intOf]; omega
    · obtain rfl : k = len := by omega
      have hpm : Hid (L.Perm l) := by
        have := hperm.out
        rw [List.take_of_length_le (by rw [hln.out]; exact Nat.le_refl _)] at this
        exact this
      have hmk := make_two 33 32 Try.underlying33 Try.info32 k (by omega)
      obtain ⟨gp, hgp⟩ : ∃ gp, gp = wr.heap.size := ⟨_, rfl⟩
      have hgB : w.heap.size < gp := by rw [hgp]; exact hH.out.lt_size
      obtain ⟨w5, hw5⟩ : ∃ w5, w5 = wr.alloc (.cells (cellsOf (List.replicate k z0)).toArray 32) := ⟨_, rfl⟩
      have hR5 : Hid (Row2 w5 gp 32 (List.replicate k z0)) := by rw [hw5, hgp]; exact Row2.made wr 32 _
      have hk5 : Below wr.heap.size wr w5 := by rw [hw5]; exact (Below.refl _ _).alloc (Nat.le_refl _) _
      have hH5 : Hid (HeapAt w5 w.heap.size w.heap.size v worst L) := hH.out.below hk5
      have hb5 : Hid (Below w.heap.size w w5) := hbel.out.trans (hk5.mono hbel.out.size)
      have hv5 : Hid (v.ownBlock ≠ some gp) := by
        intro e
        have := (hH.out.own.lt _ e).2
        omega
      have hP5 : Hid (Pops worst l 0 (List.replicate k z0) L) := pops_start (by rw [List.length_replicate, hln.out]) hpm.out hheap.out
      clear hH hperm hbel hk5
      go_wp2_with fail
      rw [← hw5, ← hgp]
      clear hmk hw5 hgp
      go_wp2_with fail
      go_loopw [9] (fun i wr => ∃ (m : Nat) (v : Value) (P L : List It), m ≤ k ∧ i = .int .i64 m ∧ Hid (HeapAt wr w.heap.size w.heap.size v worst L) ∧ Hid (v.ownBlock ≠ some gp) ∧ Hid (Row2 wr gp 32 P) ∧ Hid (Pops worst l m P L) ∧ Hid (Below w.heap.size w wr)) (fun i _ => k - (intOf i).toNat)
      case atStart => exact ⟨0, v, _, L, Nat.zero_le _, rfl, hH5, hv5, hR5, hP5, hb5⟩
      case round =>
        obtain ⟨m, v, P, L, hm, rfl, hH, hvo, hR, hP, hbel⟩ := hrel
        have hPl : Hid (P.length = k) := by show P.length = k; rw [hP.out.1, hln.out]
        have hLl : Hid (m + L.length = k) := by
          have h1 := hP.out.2.1.length_eq
          rw [List.length_append, List.length_take, hPl.out, hln.out] at h1
          show _ = _
          omega
        by_cases hlt : m < k
        · obtain ⟨n, hn⟩ : ∃ n, L.length = n + 1 := ⟨L.length - 1, by have := hLl.out; omega⟩
          obtain ⟨g, cp, rfl, hg1, hg2, hg3, hg4⟩ := hH.out.shape (by omega)
          rw [hn] at hg3
          obtain ⟨x, hx0⟩ : ∃ x, L[0]? = some x := ⟨_, List.getElem?_eq_getElem (by omega)⟩
          obtain ⟨z, hz0⟩ : ∃ z, L[n]? = some z := ⟨_, List.getElem?_eq_getElem (by omega)⟩
          have hx : Hid (L[0]? = some x) := hx0
          have hz : Hid (L[n]? = some z) := hz0
          have HN : Hid (L.length = n + 1) := hn
          have HHn := hH.out
          rw [hn] at HHn
          have hvo2 := hvo.out
          have i1 : (m : Int) < (k : Int) := by omega
          have hgpl : gp < wr.heap.size := hR.out.lt
          have hn8 : n ≤ 8192 := by have := hLl.out; omega
          clear hx0 hz0
          go_wp2_with fail
          refine (popShim_any w.heap.size w.heap.size g n cp worst L x z wr HHn HN hn8 hg2 hg3 hx hz).mono ?_
          rintro e w2 ⟨rfl, v2, hH2, hM2⟩
          have hgne : g ≠ gp := fun e => hvo2 (by rw [e]; rfl)
          have hR2 : Row2 w2 gp 32 P := hR.out.kept (hM2.block gp hgpl (by omega) (by intro e; exact hgne (Option.some.inj e).symm))
          have hv2 : Hid (v2.ownBlock ≠ some gp) := by
            intro e
            rcases hM2.at_ with h3 | ⟨q, h3, h4⟩
            · rw [h3] at e; exact hgne (Option.some.inj e)
            · rw [h3] at e; have := Option.some.inj e; omega
          have hb2 : Hid (Below w.heap.size w w2) := hbel.out.trans (hM2.below hbel.out.size (Nat.le_refl _) (fun q e => by have := Option.some.inj e; simp at this; omega))
          have hP2 : Hid (Pops worst l (m + 1) (P.set m x) (popL worst L)) := pops_step hok.out hP.out (by rw [hln.out]; exact hlt) HN.out hx.out hz.out
          have HH2 : Hid (HeapAt w2 w.heap.size w.heap.size v2 worst (popL worst L)) := hH2
          have HR2 : Hid (Row2 w2 gp 32 P) := hR2
          obtain ⟨y, hy⟩ : ∃ y, P[m]? = some y := ⟨_, List.getElem?_eq_getElem (by rw [hPl.out]; exact hlt)⟩
          obtain ⟨d0, d1, f0, f1⟩ := hR2.at hy
          clear hH2 hM2 hR2 hy hH hR HHn hvo2
          go_wp2_with fail
          go_roundw
          case rel =>
            exact ⟨m + 1, v2, P.set m x, popL worst L, by omega, by go_num, (HH2.out.far gp _ _ (by omega) hv2.out).far gp _ _ (by omega) hv2.out, hv2, HR2.out.put m x, hP2, (hb2.out.setCell (by show w.heap.size ≤ gp; omega) _).setCell (by show w.heap.size ≤ gp; omega) _⟩
          case measure => simp [intOf]; omega
        · obtain rfl : m = k := by omega
          obtain rfl : L = [] := List.length_eq_zero_iff.1 (by have := hLl.out; omega)
          obtain ⟨a5, c5, rfl, _, _, _⟩ := hH.out.view
          have hc5 := hH.out.c0
          have hP2 : Hid (Pops worst l l.length P []) := by show Pops _ _ _ _ _; rw [hln.out]; exact hP.out
          have hokP : Hid (Ok P) := by
            have h1 := hP2.out.2.1
            rw [List.take_of_length_le (by rw [hPl.out, hln.out]; exact Nat.le_refl _), List.append_nil] at h1
            exact hok.out.perm h1
          rw [List.length_nil] at hc5
          clear hH hP hvo hLl
          go_wp2_with fail
          refine (items_any w.heap.size _ wr hc5).mono ?_
          rintro e w7 ⟨rfl, hw7⟩
          subst w7
          have hmk := make_one m (by omega)
          obtain ⟨gw, hgw⟩ : ∃ gw, gw = wr.heap.size := ⟨_, rfl⟩
          have hgpl : gp < gw := by rw [hgw]; exact hR.out.lt
          obtain ⟨w5, hw5⟩ : ∃ w5, w5 = wr.alloc (.cells (simCells (List.replicate m z0)) 28) := ⟨_, rfl⟩
          have hF5 : Hid (Row1 w5 gw (List.replicate m z0)) := by rw [hw5, hgw]; exact Row1.made wr _
          have hk5 : Below wr.heap.size wr w5 := by rw [hw5]; exact (Below.refl _ _).alloc (Nat.le_refl _) _
          have hR5 : Hid (Row2 w5 gp 32 P) := hR.out.kept (hk5.block _ (by omega))
          have hb5 : Hid (Below w.heap.size w w5) := hbel.out.trans (hk5.mono hbel.out.size)
          clear hc5 hR hbel hk5
          go_wp2_with fail
          rw [← hw5, ← hgw]
          clear hmk hw5 hgw
          go_wp2_with fail
          go_loopw [11] (fun i wr => ∃ (k : Nat) (F : List It), k ≤ m ∧ i = .int .i64 k ∧ Hid (F.length = m) ∧ Hid (Row1 wr gw F) ∧ Hid (∀ j, j < k → F[j]? = l[j]?) ∧ Hid (Row2 wr gp 32 P) ∧ Hid (Below w.heap.size w wr)) (fun i _ => m - (intOf i).toNat)
          case atStart => exact ⟨0, _, Nat.zero_le _, rfl, by show (List.replicate m z0).length = m; simp, hF5, fun j hj => by omega, hR5, hb5⟩
          case round =>
            obtain ⟨k, F, hk, rfl, hFl, hF, hFe, hR, hbel⟩ := hrel
            by_cases hlt2 : k < m
            · obtain ⟨b, off, x, rfl, hb, hgx, hx0', hx1'⟩ := h.out.at hlt2
              have hi1 : wr.cell? ⟨b, off + k * 2 + 1, none⟩ = some (.float .f32 x.sim) := (hbel.out.cell (by exact hb)).trans hx1'
              obtain ⟨y, hy⟩ : ∃ y, F[k]? = some y := ⟨_, List.getElem?_eq_getElem (by rw [hFl.out]; exact hlt2)⟩
              obtain ⟨d0, f0⟩ := hF.out.at hy
              have i1 : (k : Int) < (m : Int) := by omega
              have HX : Hid (l[k]? = some x) := hgx
              clear hgx hx0' hx1' hy
              go_wp2_with fail
              go_roundw
              case rel =>
                refine ⟨k + 1, F.set k x, by omega, by go_num, by show _ = _; rw [List.length_set]; exact hFl.out, hF.out.put k x, fun j hj => ?_, hR.out.kept (Below.heap_setCell _ _ _ _ (by show gp ≠ gw; omega)), hbel.out.setCell (by show w.heap.size ≤ gw; omega) _⟩
                rw [List.getElem?_set]
                by_cases e : k = j
                · subst e; rw [if_pos rfl, if_pos (by rw [hFl.out]; exact hlt2), HX.out]
                · rw [if_neg e]; exact hFe.out j (by omega)
              case measure => simp [intOf]; omega
            · obtain rfl : k = m := by omega
              obtain rfl : F = l := by
                apply List.ext_getElem?
                intro j
                by_cases hj : j < k
                · exact hFe.out j hj
                · rw [List.getElem?_eq_none (by rw [hFl.out]; omega), List.getElem?_eq_none (by rw [hln.out]; omega)]
              clear hFe hFl
              go_wp2_with fail
              go_loopw [12] (fun i wr => ∃ (j : Nat) (G : List It), i = .int .i64 j ∧ 1 ≤ j ∧ j ≤ k + 1 ∧ Hid (G.Perm F) ∧ Hid (SortedTo worst j G) ∧ Hid (Row1 wr gw G) ∧ Hid (Row2 wr gp 32 P) ∧ Hid (Below w.heap.size w wr)) (fun i _ => k + 1 - (intOf i).toNat)
              case atStart => exact ⟨1, F, rfl, Nat.le_refl _, by omega, List.Perm.refl _, fun a b x y hab hb => by omega, hF, hR, hbel⟩
              case round =>
                obtain ⟨i, G, rfl, hi1, hik, hGp, hGs, hG, hR, hbel⟩ := hrel
                have hGl : Hid (G.length = k) := by show _ = _; rw [hGp.out.length_eq, hln.out]
                by_cases hlt3 : i < k
                · obtain ⟨x, hx⟩ : ∃ x, G[i]? = some x := ⟨_, List.getElem?_eq_getElem (by rw [hGl.out]; exact hlt3)⟩
                  obtain ⟨d0, f0⟩ := hG.out.at hx
                  have hxn : Hid (isNaN x.sim = false) := hok.out.perm hGp.out |>.at hx
                  have hole : Hid (Hole worst F i i x G) := hole_start (by rw [hGl.out, hln.out]) hGp.out hGs.out hx
                  have hpos : (i : Int) < (k : Int) := by omega
                  clear hx
                  go_wp2_with fail
                  obtain ⟨wo, hwo⟩ : ∃ wo : World, wo = wr := ⟨_, rfl⟩
                  subst hwo
                  go_loopw [14] (fun jv wr => ∃ (j : Nat) (G : List It), jv = .int .i64 j ∧ j ≤ i ∧ Hid (Hole worst F i j x G) ∧ Hid (Row1 wr gw G) ∧ Hid (Row2 wr gp 32 P) ∧ Hid (Below w.heap.size w wr)) (fun jv _ => (intOf jv).toNat)
                  case atStart => exact ⟨i, G, rfl, Nat.le_refl _, hole, hG, hR, hbel⟩
                  case round =>
                    clear hGl hGp hGs hG hR hbel hole d0 f0
                    obtain ⟨j, G, rfl, hji, hole, hG, hR, hbel⟩ := hrel
                    have hGl : Hid (G.length = k) := by show _ = _; rw [hole.out.1, hln.out]
                    obtain ⟨yj, hyj⟩ : ∃ y, G[j]? = some y := ⟨_, List.getElem?_eq_getElem (by rw [hGl.out]; omega)⟩
                    obtain ⟨d0, f0⟩ := hG.out.at hyj
                    clear hyj
                    have ij : (j : Int) < (k : Int) := by omega
                    rcases Nat.eq_zero_or_pos j with h0 | h0
                    · subst h0
                      have hend : Hid ((G.set 0 x).length = F.length ∧ (G.set 0 x).Perm F ∧ SortedTo worst (i + 1) (G.set 0 x)) := hole_end hole.out hji (fun q y hq => by omega)
                      go_wp2_with fail
                      go_roundw
                      case rel => exact ⟨i + 1, G.set 0 x, by go_num, by omega, by omega, hend.out.2.1, hend.out.2.2, hG.out.put 0 x, hR.out.kept (Below.heap_setCell _ _ _ _ (by show gp ≠ gw; omega)), hbel.out.setCell (by show w.heap.size ≤ gw; omega) _⟩
                      case measure => simp [intOf]; omega
                    · obtain ⟨p, rfl⟩ : ∃ p, j = p + 1 := ⟨j - 1, by omega⟩
                      have hpi : ((p + 1 : Nat) : Int) - 1 = (p : Int) := by omega
                      obtain ⟨y, hy⟩ : ∃ y, G[p]? = some y := ⟨_, List.getElem?_eq_getElem (by rw [hGl.out]; omega)⟩
                      obtain ⟨d1, f1⟩ := hG.out.at hy
                      have ip : (p : Int) < (k : Int) := by omega
                      have hyn : Hid (isNaN y.sim = false) := by
                        have h5 := hole.out.2.1
                        refine hok.out y (h5.mem_iff.1 (List.mem_of_getElem? (i := p) ?_))
                        rw [List.getElem?_set, if_neg (by omega)]
                        exact hy
                      cases hbf : bf worst x.sim y.sim with
                      | false =>
                        have hle : kk worst y ≤ kk worst x := by
                          rw [bf_kk worst hxn.out hyn.out] at hbf
                          have := of_decide_eq_false hbf
                          omega
                        have hend : Hid ((G.set (p + 1) x).length = F.length ∧ (G.set (p + 1) x).Perm F ∧ SortedTo worst (i + 1) (G.set (p + 1) x)) := hole_end hole.out hji (fun q y' hq hy' => by
                          obtain rfl : q = p := by omega
                          rw [← Option.some.inj (hy.symm.trans hy')]; exact hle)
                        have HBF : Hid (bf worst x.sim y.sim = false) := hbf
                        clear hbf hle hy
                        go_wp2_with (go_at_call 12; refine (hbBefore_any worst x.sim y.sim _).mono ?_; rintro e w'' ⟨rfl, rfl⟩; rw [HBF.out])
                        go_roundw
                        case rel => exact ⟨i + 1, G.set (p + 1) x, by go_num, by omega, by omega, hend.out.2.1, hend.out.2.2, hG.out.put (p + 1) x, hR.out.kept (Below.heap_setCell _ _ _ _ (by show gp ≠ gw; omega)), hbel.out.setCell (by show w.heap.size ≤ gw; omega) _⟩
                        case measure => simp [intOf]; omega
                      | true =>
                        have hlt4 : kk worst x < kk worst y := by
                          rw [bf_kk worst hxn.out hyn.out] at hbf
                          exact of_decide_eq_true hbf
                        have hole2 : Hid (Hole worst F i p x (G.set (p + 1) y)) := hole_step hole.out (by rw [hln.out]; omega) hji hy hlt4
                        have HBF : Hid (bf worst x.sim y.sim = true) := hbf
                        clear hbf hlt4 hy
                        go_wp2_with (go_at_call 12; refine (hbBefore_any worst x.sim y.sim _).mono ?_; rintro e w'' ⟨rfl, rfl⟩; rw [HBF.out])
                        go_roundw
                        case rel => exact ⟨p, G.set (p + 1) y, by go_num, by omega, hole2, hG.out.put (p + 1) y, hR.out.kept (Below.heap_setCell _ _ _ _ (by show gp ≠ gw; omega)), hbel.out.setCell (by show w.heap.size ≤ gw; omega) _⟩
                        case measure => simp [intOf]
                · have hsk := same_keys hP2.out hGp.out (show SortedTo worst F.length G from fun a b x y hab hb => hGs.out a b x y hab (by rw [hln.out] at hb; omega))
                  have hPp : Hid (P.Perm F) := hsk.1
                  have hkeys : Hid (∀ (j : Nat) x y, P[j]? = some x → G[j]? = some y → kk worst x = kk worst y) := fun j x y hx hy => by
                    have h1 := congrArg (fun q => q[j]?) hsk.2
                    simp only [List.getElem?_map, hx, hy, Option.map_some] at h1
                    exact Option.some.inj h1
                  have hokG : Hid (Ok G) := hok.out.perm hGp.out
                  have hPI : Hid (Items wr (some ⟨gp, 0, none⟩) k P) := by
                    have := hR.out.items
                    rw [hPl.out] at this
                    exact this
                  have hFI : Hid (Items wr a k F) := h.out.below hbel.out
                  clear hsk hGs hGp
                  have hnlt : ¬ (i : Int) < (k : Int) := by omega
                  go_wp2_with fail
                  go_loopw [15] (fun jv wr' => ∃ (j q : Nat), jv = .int .i64 j ∧ j ≤ k ∧ wr' = wr.drewN q) (fun jv _ => k - (intOf jv).toNat)
                  case atStart => exact ⟨0, 0, rfl, Nat.zero_le _, rfl⟩
                  case round =>
                    obtain ⟨j, q, rfl, hj, rfl⟩ := hrel
                    by_cases hlt5 : j < k
                    · obtain ⟨x, hx⟩ : ∃ x, P[j]? = some x := ⟨_, List.getElem?_eq_getElem (by rw [hPl.out]; exact hlt5)⟩
                      obtain ⟨y, hy⟩ : ∃ y, G[j]? = some y := ⟨_, List.getElem?_eq_getElem (by rw [hGl.out]; exact hlt5)⟩
                      obtain ⟨_, c1, _, _⟩ := hR.out.at hx
                      obtain ⟨c2, _⟩ := hG.out.at hy
                      have heq := eq_key' worst x.sim y.sim (hokP.out.at hx) (hokG.out.at hy) (hkeys.out j x y hx hy)
                      have ij : (j : Int) < (k : Int) := by omega
                      clear hx hy
                      go_wp2_with fail
                      go_quiet (fail)
                      go_wp2_with fail
                      go_roundw
                      case rel => exact ⟨j + 1, q + nq, by go_num, by omega, rfl⟩
                      case measure => simp [intOf]; omega
                    · obtain rfl : j = k := by omega
                      go_wp2_with fail
                      refine (multi_yes (some ⟨gp, 0, none⟩) j P a cap F j _ (by omega) (hPI.out.drewN q) (hFI.out.drewN q) hPp hokP).mono ?_
                      rintro e w9 ⟨rfl, hb9⟩
                      go_wp2_with fail
                      go_ret
                      exact ⟨rfl, hbel.out.trans ((undrewN hb9).mono hbel.out.size)⟩

end Go.Proofs.Qxb6617404a

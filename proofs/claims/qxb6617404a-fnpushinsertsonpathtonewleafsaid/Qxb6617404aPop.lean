/-
  (heap).pop
-/
import Derived.Test.Qxb6617404aDown
namespace Go.Proofs.Qxb6617404a
open Go.RowKit
attribute [local go_sem] run_store_float

def Popped (w : World) (B hb : Nat) (v : Value) (worst : Bool) (x : It) (L : List It) (e : Ending) (w' : World) : Prop :=
  e = .returned (.agg #[.int .i32 x.id, .float .f32 x.sim]) ∧ ∃ v', HeapAt w' B hb v' worst L ∧ Moved w hb v w' v'

theorem two_blocks (w : World) (a b : Array Value) : Below w.heap.size w ((w.alloc (.cells a 32)).alloc (.cells b 32)) ∧ ((w.alloc (.cells a 32)).alloc (.cells b 32)).heap[w.heap.size]? = some (.cells a 32 (0, 0)) ∧ ((w.alloc (.cells a 32)).alloc (.cells b 32)).heap[w.heap.size + 1]? = some (.cells b 32 (0, 0)) ∧ ((w.alloc (.cells a 32)).alloc (.cells b 32)).heap.size = w.heap.size + 2 := by
  refine ⟨((Below.refl _ _).alloc (Nat.le_refl _) _).alloc (by simp) _, ?_, ?_, by simp⟩
  · rw [Below.heap_alloc _ _ _ (by simp)]; exact heap_alloc_new w _
  · have := heap_alloc_new (w.alloc (.cells a 32)) (.cells b 32 (0, 0))
    rwa [World.size_alloc] at this

theorem HeapAt.drewN {w : World} {B hb : Nat} {v : Value} {worst : Bool} {l : List It} (h : HeapAt w B hb v worst l) (n : Nat) : HeapAt (w.drewN n) B hb v worst l := ⟨h.hd, h.own, h.ne⟩
theorem Moved.drewN {w w' : World} {hb : Nat} {v v' : Value} (h : Moved w hb v w' v') (n : Nat) : Moved w hb v (w'.drewN n) v' := ⟨h.os, h.tape, h.output, h.size, h.block, h.at_⟩

theorem pair_cells {w : World} {b : Nat} {u v : Value} {t : TypeId} (h : w.heap[b]? = some (.cells #[u, v] t (0, 0))) : w.cell? ⟨b, 0, none⟩ = some u ∧ w.cell? ⟨b, 1, none⟩ = some v ∧ w.frozen? ⟨b, 0, none⟩ = false ∧ w.frozen? ⟨b, 1, none⟩ = false := by
  simp [World.cell?, World.frozen?, h]

theorem HeapAt.far {w : World} {B hb : Nat} {v : Value} {worst : Bool} {l : List It} (h : HeapAt w B hb v worst l) (k i : Nat) (u : Value) (hk : k ≠ hb) (hv : v.ownBlock ≠ some k) : HeapAt (w.setCell ⟨k, i, none⟩ u) B hb v worst l :=
  ⟨(Below.heap_setCell _ _ _ _ (by exact Ne.symm hk)).trans h.hd, h.own.kept (setCell_grown w k i u) (.inr hv), h.ne⟩

theorem Moved.late {w w' : World} {hb : Nat} {v v' : Value} (h : Moved w hb v w' v') (k i : Nat) (u : Value) (hk : w.heap.size ≤ k) : Moved w hb v (w'.setCell ⟨k, i, none⟩ u) v' :=
  ⟨h.os, h.tape, h.output, by simpa [World.setCell] using h.size, fun j h1 h2 h3 => (Below.heap_setCell _ _ _ _ (by show j ≠ k; omega)).trans (h.block j h1 h2 h3), h.at_⟩

theorem cellsOf_take (l : List It) (n : Nat) : cellsOf (l.take n) = (cellsOf l).take (n * 2) := by
  induction l generalizing n with
  | nil => simp [cellsOf]
  | cons y l ih =>
    cases n with
    | zero => simp [cellsOf]
    | succ n =>
      have e : (n + 1) * 2 = n * 2 + 2 := by omega
      have := ih n
      simp only [cellsOf] at this
      rw [e]
      simp [cellsOf, itCells, this]

/-- Behind 'h.items[0] = h.items[last]; h.items = h.items[:last]'. -/
theorem taken {w : World} {B hb g n cap : Nat} {worst : Bool} {l : List It} (h : HeapAt w B hb (.slice (some ⟨g, 0, none⟩) (n + 1) cap) worst l) (hl : l.length = n + 1) (hg : g ≠ hb) (z : It) :
    HeapAt (((w.setCell ⟨g, 0, none⟩ (.int .i32 z.id)).setCell ⟨g, 1, none⟩ (.float .f32 z.sim)).setCell ⟨hb, 0, none⟩ (.slice (some ⟨g, 0, none⟩) n cap)).drew B hb (.slice (some ⟨g, 0, none⟩) n cap) worst ((l.set 0 z).take n) ∧
      Moved w hb (.slice (some ⟨g, 0, none⟩) (n + 1) cap) (((w.setCell ⟨g, 0, none⟩ (.int .i32 z.id)).setCell ⟨g, 1, none⟩ (.float .f32 z.sim)).setCell ⟨hb, 0, none⟩ (.slice (some ⟨g, 0, none⟩) n cap)).drew (.slice (some ⟨g, 0, none⟩) n cap) := by
  have hp := h.put hl hg 0 z
  have mp := Moved.put w hb g (n + 1) cap 0 (.int .i32 z.id) (.float .f32 z.sim)
  rw [Nat.zero_mul, Nat.zero_add] at hp mp
  generalize ((w.setCell ⟨g, 0, none⟩ (.int .i32 z.id)).setCell ⟨g, 1, none⟩ (.float .f32 z.sim)) = w1 at hp mp
  refine ⟨⟨?_, ?_, by simpa [Value.ownBlock] using hg⟩, ?_⟩
  · show (w1.setCell ⟨hb, 0, none⟩ (.slice (some ⟨g, 0, none⟩) n cap)).heap[hb]? = _
    simp only [World.setCell, Array.getElem?_modify, hp.hd]
    simp
  · have ho := hp.own
    rw [List.length_set, hl] at ho
    have h2 := ho.kept (setCell_grown w1 hb 0 (.slice (some ⟨g, 0, none⟩) n cap)) (.inr (by simpa [Value.ownBlock] using hg))
    have hlen : ((l.set 0 z).take n).length = n := by rw [List.length_take, List.length_set, hl]; omega
    rw [hlen]
    refine ⟨by rw [cellsOf_length, hlen], .inr ?_⟩
    rcases h2.2 with ⟨h0, _⟩ | ⟨g', cap', cur, hv, hB, hh, h3, h4, h5, h6⟩
    · cases h0
    · simp only [Value.slice.injEq, Option.some.injEq, Addr.mk.injEq, and_true, true_and] at hv
      obtain ⟨rfl, rfl⟩ := hv
      refine ⟨g, cap, cur, rfl, hB, hh, by omega, h4, h5, ?_⟩
      rw [cellsOf_take, ← h6, List.take_take]
      congr 1
      omega
  · refine ⟨mp.os, mp.tape, mp.output, ?_, fun k h1 h2 h3 => ?_, .inl rfl⟩
    · have := mp.size
      show w.heap.size ≤ (w1.setCell ⟨hb, 0, none⟩ (.slice (some ⟨g, 0, none⟩) n cap)).heap.size
      simp only [World.setCell, Array.size_modify]; exact this
    · show (w1.setCell ⟨hb, 0, none⟩ (.slice (some ⟨g, 0, none⟩) n cap)).heap[k]? = _
      rw [Below.heap_setCell _ _ _ _ (by exact h2)]
      exact mp.block k h1 h2 h3

set_option maxRecDepth 100000 in
set_option maxHeartbeats 1000000 in
theorem pop_any (B hb g n cap : Nat) (worst : Bool) (l : List It) (x z : It) (w : World) (h : Hid (HeapAt w B hb (.slice (some ⟨g, 0, none⟩) (n + 1) cap) worst l)) (hln : Hid (l.length = n + 1)) (hn : n ≤ 8192) (hg : g ≠ hb) (hcap : n + 1 ≤ cap)
    (hx : Hid (l[0]? = some x)) (hz : Hid (l[n]? = some z)) :
    Calls Try.prog 21 #[.pointer (some ⟨hb, 0, none⟩)] w (Popped w B hb (.slice (some ⟨g, 0, none⟩) (n + 1) cap) worst x (popL worst l)) := by
  have hc0 := h.out.c0
  have hf0 := h.out.f0 0
  obtain ⟨cx0, cx1, fx0, fx1⟩ := h.out.item hln.out hx.out
  obtain ⟨cz0, cz1, fz0, fz1⟩ := h.out.item hln.out hz.out
  rw [Nat.zero_mul] at cx0 fx0
  rw [Nat.zero_mul, Nat.zero_add] at cx1 fx1
  have hlb : hb < w.heap.size := World.block_lt_of_cell? _ _ hc0
  have hlg : g < w.heap.size := World.block_lt_of_cell? _ _ cx0
  go_enter Try.func21, Try.ntmps21
  go_wp2_with fail
  obtain ⟨W1, hW1⟩ : ∃ W1, W1 = (w.alloc (Obj.cells #[Value.int IntKind.i32 0, Value.float FloatKind.f32 0] 32)).alloc (Obj.cells #[Value.int IntKind.i32 x.id, Value.float FloatKind.f32 x.sim] 32) := ⟨_, rfl⟩
  obtain ⟨hk1, a0, a1, hs1⟩ := two_blocks w #[Value.int IntKind.i32 0, Value.float FloatKind.f32 0] #[Value.int IntKind.i32 x.id, Value.float FloatKind.f32 x.sim]
  rw [← hW1] at hk1 a0 a1 hs1 ⊢
  clear hW1
  have HH1 : Hid (HeapAt W1 B hb (.slice (some ⟨g, 0, none⟩) (n + 1) cap) worst l) := h.out.below hk1
  have d0 := HH1.out.c0
  have df := HH1.out.f0 0
  obtain ⟨dx0, dx1, ex0, ex1⟩ := HH1.out.item hln.out hx.out
  obtain ⟨dz0, dz1, ez0, ez1⟩ := HH1.out.item hln.out hz.out
  rw [Nat.zero_mul] at dx0 ex0
  rw [Nat.zero_mul, Nat.zero_add] at dx1 ex1
  have HK1 : Hid (Below w.heap.size w W1) := hk1
  have HA0 : Hid (W1.heap[w.heap.size]? = some (.cells #[Value.int IntKind.i32 0, Value.float FloatKind.f32 0] 32 (0, 0))) := a0
  have HA1 : Hid (W1.heap[w.heap.size + 1]? = some (.cells #[Value.int IntKind.i32 x.id, Value.float FloatKind.f32 x.sim] 32 (0, 0))) := a1
  clear hc0 hf0 cx0 cx1 fx0 fx1 cz0 cz1 fz0 fz1 hk1 a0 a1
  have hg' : hb ≠ g := Ne.symm hg
  have i1 : (n : Int) < (n : Int) + 1 := by omega
  go_region
  go_wp2_with fail
  obtain ⟨W2, hW2⟩ : ∃ W2, W2 = (((W1.setCell { block := g, off := 0 } (Value.int IntKind.i32 z.id)).setCell { block := g, off := 1 } (Value.float FloatKind.f32 z.sim)).setCell { block := hb, off := 0 } (Value.slice (some { block := g, off := 0 }) n cap)).drew := ⟨_, rfl⟩
  obtain ⟨hH2, hM2⟩ := taken HH1.out hln.out hg z
  rw [← hW2] at hH2 hM2 ⊢
  clear hW2
  obtain ⟨L, HLd⟩ : ∃ L, Hid (moveL l = L) := ⟨_, rfl⟩
  have hmv : moveL l = (l.set 0 z).take n := moveL_eq hln.out hz.out
  rw [← hmv, HLd.out] at hH2
  have HLn : Hid (L.length = n) := by show _ = _; rw [← HLd.out, hmv, List.length_take, List.length_set, hln.out]; omega
  obtain ⟨R, HR⟩ : ∃ R, Hid (down worst (n + 1) L 0 = R) := ⟨_, rfl⟩
  have hs2 := hM2.size
  have HB0 : Hid (W2.heap[w.heap.size]? = some (.cells #[Value.int IntKind.i32 0, Value.float FloatKind.f32 0] 32 (0, 0))) := (hM2.block _ (by omega) (by omega) (by intro e; have := Option.some.inj e; simp at this; omega)).trans HA0.out
  have HB1 : Hid (W2.heap[w.heap.size + 1]? = some (.cells #[Value.int IntKind.i32 x.id, Value.float FloatKind.f32 x.sim] 32 (0, 0))) := (hM2.block _ (by omega) (by omega) (by intro e; have := Option.some.inj e; simp at this; omega)).trans HA1.out
  have HH2 : Hid (HeapAt W2 B hb (.slice (some ⟨g, 0, none⟩) n cap) worst L) := hH2
  have HM2 : Hid (Moved W1 hb (.slice (some ⟨g, 0, none⟩) (n + 1) cap) W2 (.slice (some ⟨g, 0, none⟩) n cap)) := hM2
  clear hmv hH2 hM2 d0 df dx0 dx1 ex0 ex1 dz0 dz1 ez0 ez1 i1
  go_loopw [5] (fun i wr => ∃ (k f : Nat) (li : List It), i = .int .i64 k ∧ k ≤ n ∧ n + 1 ≤ f + k ∧ Hid (li.length = n) ∧ Hid (HeapAt wr B hb (.slice (some ⟨g, 0, none⟩) n cap) worst li) ∧ Hid (Moved W2 hb (.slice (some ⟨g, 0, none⟩) n cap) wr (.slice (some ⟨g, 0, none⟩) n cap)) ∧ Hid (down worst f li k = R)) (fun i _ => n - (intOf i).toNat)
  case atStart => exact ⟨0, n + 1, L, rfl, by omega, by omega, HLn, HH2, Moved.refl _ _ _, HR⟩
  case round =>
    obtain ⟨k, f, li, rfl, hk, hkf, HLi, hh, hm, hdn⟩ := hrel
    have ch0 := hh.out.c0
    have ch1 := hh.out.c1
    have hbl : hb < wr.heap.size := World.block_lt_of_cell? _ _ ch0
    go_wp2_with fail
    go_cut [73] (fun c wx => c = .bool (lt worst li (2 * k + 1) k) ∧ Hid (HeapAt wx B hb (.slice (some ⟨g, 0, none⟩) n cap) worst li) ∧ Hid (Moved W2 hb (.slice (some ⟨g, 0, none⟩) n cap) wx (.slice (some ⟨g, 0, none⟩) n cap)))
    case first =>
      by_cases c1 : 2 * k + 1 < n
      · obtain ⟨xl, hxl⟩ : ∃ x, li[2 * k + 1]? = some x := ⟨_, List.getElem?_eq_getElem (by rw [HLi.out]; omega)⟩
        obtain ⟨xk, hxk⟩ : ∃ x, li[k]? = some x := ⟨_, List.getElem?_eq_getElem (by rw [HLi.out]; omega)⟩
        have HT : Hid (lt worst li (2 * k + 1) k = bf worst xl.sim xk.sim) := by show lt _ _ _ _ = _; simp [lt, hxl, hxk]
        obtain ⟨cl0, cl1, _, _⟩ := hh.out.item HLi.out hxl
        obtain ⟨ck0, ck1, _, _⟩ := hh.out.item HLi.out hxk
        have hgl : g < wr.heap.size := World.block_lt_of_cell? _ _ ck0
        clear hxl hxk
        have c1' : 2 * (k : Int) + 1 < (n : Int) := by omega
        have p1 : (0 : Int) ≤ 2 * (k : Int) + 1 := by omega
        have e1 : (2 * (k : Int) + 1).toNat = 2 * k + 1 := by omega
        have b2 : (k : Int) < (n : Int) := by omega
        go_region_held3 (fun w' => w'.cell? ⟨hb, 0, none⟩ = some (.slice (some ⟨g, 0, none⟩) n cap) ∧ w'.cell? ⟨hb, 1, none⟩ = some (.bool worst) ∧ w'.cell? ⟨g, (2 * k + 1) * 2, none⟩ = some (.int .i32 xl.id) ∧ w'.cell? ⟨g, (2 * k + 1) * 2 + 1, none⟩ = some (.float .f32 xl.sim) ∧ w'.cell? ⟨g, k * 2, none⟩ = some (.int .i32 xk.id) ∧ w'.cell? ⟨g, k * 2 + 1, none⟩ = some (.float .f32 xk.sim))
          (first
            | go_keep
            | (go_split_ands
               exact ⟨(hb2.cell (by exact hbl)).trans ch0, (hb2.cell (by exact hbl)).trans ch1, (hb2.cell (by exact hgl)).trans cl0, (hb2.cell (by exact hgl)).trans cl1, (hb2.cell (by exact hgl)).trans ck0, (hb2.cell (by exact hgl)).trans ck1⟩))
          ((go_at_call 23; refine (before_any hb worst xl xk _ ?_).mono ?_; exact ch1; rintro e w2 ⟨rfl, hb2⟩))
        go_wp2_with fail
        go_meet
        exact ⟨by rw [HT.out], hh.out.below (undrew hb2), hm.out.trans (Moved.of_below hb _ (undrew hb2))⟩
      · have HT : Hid (lt worst li (2 * k + 1) k = false) := by show lt _ _ _ _ = _; simp [lt, List.getElem?_eq_none (show li.length ≤ 2 * k + 1 by rw [HLi.out]; omega)]
        have c1' : decide (2 * (k : Int) + 1 < (n : Int)) = false := decide_eq_false (by omega)
        go_quiet (fail)
        go_wp2
        go_meet
        exact ⟨by rw [HT.out], hh.out.drewN _, hm.out.drewN _⟩
    case rest =>
      obtain ⟨rfl, hh3, hm3⟩ := hcut
      clear hh hm ch0 ch1 hbl
      have dh0 := hh3.out.c0
      have dh1 := hh3.out.c1
      have hbl2 : hb < wc.heap.size := World.block_lt_of_cell? _ _ dh0
      cases hlt1 : lt worst li (2 * k + 1) k with
      | true =>
        have hl1 := lt_true hlt1
        have HT1 : Hid (top1 worst li k = 2 * k + 1) := by show top1 _ _ _ = _; simp [top1, hlt1]
        rw [HLi.out] at hl1
        obtain ⟨hl2, _⟩ := hl1
        clear hlt1
        go_wp2_with fail
        go_cut [99] (fun c wx => c = .bool (lt worst li (2 * k + 2) (2 * k + 1)) ∧ Hid (HeapAt wx B hb (.slice (some ⟨g, 0, none⟩) n cap) worst li) ∧ Hid (Moved W2 hb (.slice (some ⟨g, 0, none⟩) n cap) wx (.slice (some ⟨g, 0, none⟩) n cap)))
        case first =>
          by_cases c2 : 2 * k + 2 < n
          · obtain ⟨xl, hxl⟩ : ∃ x, li[2 * k + 2]? = some x := ⟨_, List.getElem?_eq_getElem (by rw [HLi.out]; omega)⟩
            obtain ⟨xk, hxk⟩ : ∃ x, li[2 * k + 1]? = some x := ⟨_, List.getElem?_eq_getElem (by rw [HLi.out]; omega)⟩
            have HT : Hid (lt worst li (2 * k + 2) (2 * k + 1) = bf worst xl.sim xk.sim) := by show lt _ _ _ _ = _; simp [lt, hxl, hxk]
            obtain ⟨cl0, cl1, _, _⟩ := hh3.out.item HLi.out hxl
            obtain ⟨ck0, ck1, _, _⟩ := hh3.out.item HLi.out hxk
            have hgl : g < wc.heap.size := World.block_lt_of_cell? _ _ ck0
            clear hxl hxk
            have c2' : 2 * (k : Int) + 2 < (n : Int) := by omega
            have p1 : (0 : Int) ≤ 2 * (k : Int) + 2 := by omega
            have e1 : (2 * (k : Int) + 2).toNat = 2 * k + 2 := by omega
            have b2 : 2 * (k : Int) + 1 < (n : Int) := by omega
            have p2 : (0 : Int) ≤ 2 * (k : Int) + 1 := by omega
            have e2 : (2 * (k : Int) + 1).toNat = 2 * k + 1 := by omega
            go_region_held3 (fun w' => w'.cell? ⟨hb, 0, none⟩ = some (.slice (some ⟨g, 0, none⟩) n cap) ∧ w'.cell? ⟨hb, 1, none⟩ = some (.bool worst) ∧ w'.cell? ⟨g, (2 * k + 2) * 2, none⟩ = some (.int .i32 xl.id) ∧ w'.cell? ⟨g, (2 * k + 2) * 2 + 1, none⟩ = some (.float .f32 xl.sim) ∧ w'.cell? ⟨g, (2 * k + 1) * 2, none⟩ = some (.int .i32 xk.id) ∧ w'.cell? ⟨g, (2 * k + 1) * 2 + 1, none⟩ = some (.float .f32 xk.sim))
              (first
                | go_keep
                | (go_split_ands
                   exact ⟨(hb2.cell (by exact hbl2)).trans dh0, (hb2.cell (by exact hbl2)).trans dh1, (hb2.cell (by exact hgl)).trans cl0, (hb2.cell (by exact hgl)).trans cl1, (hb2.cell (by exact hgl)).trans ck0, (hb2.cell (by exact hgl)).trans ck1⟩))
              ((go_at_call 23; refine (before_any hb worst xl xk _ ?_).mono ?_; exact dh1; rintro e w2 ⟨rfl, hb2⟩))
            go_wp2_with fail
            go_meet
            exact ⟨by rw [HT.out], hh3.out.below (undrew hb2), hm3.out.trans (Moved.of_below hb _ (undrew hb2))⟩
          · have HT : Hid (lt worst li (2 * k + 2) (2 * k + 1) = false) := by show lt _ _ _ _ = _; simp [lt, List.getElem?_eq_none (show li.length ≤ 2 * k + 2 by rw [HLi.out]; omega)]
            have c2' : decide (2 * (k : Int) + 2 < (n : Int)) = false := decide_eq_false (by omega)
            go_quiet (fail)
            go_wp2
            go_meet
            exact ⟨by rw [HT.out], hh3.out.drewN _, hm3.out.drewN _⟩
        case rest =>
          obtain ⟨rfl, hh4, hm4⟩ := hcut
          clear hh3 hm3 dh0 dh1 hbl2
          have dh0 := hh4.out.c0
          have dh1 := hh4.out.c1
          cases hlt2 : lt worst li (2 * k + 2) (2 * k + 1) with
          | true =>
            have hr := lt_true hlt2
            have HT2 : Hid (top2 worst li k = 2 * k + 2) := by show top2 _ _ _ = _; simp [top2, HT1.out, hlt2]
            rw [HLi.out] at hr
            obtain ⟨hr1, _⟩ := hr
            clear hlt2
            obtain ⟨xk, hxk⟩ : ∃ x, li[k]? = some x := ⟨_, List.getElem?_eq_getElem (by rw [HLi.out]; omega)⟩
            obtain ⟨xt, hxt⟩ : ∃ x, li[2 * k + 2]? = some x := ⟨_, List.getElem?_eq_getElem (by rw [HLi.out]; omega)⟩
            obtain ⟨ck0, ck1, fk0, fk1⟩ := hh4.out.item HLi.out hxk
            obtain ⟨ct0, ct1, ft0, ft1⟩ := hh4.out.item HLi.out hxt
            have HXK : Hid (li[k]? = some xk) := hxk
            have HXT : Hid (li[2 * k + 2]? = some xt) := hxt
            clear hxk hxt
            have tne : (2 * (k : Int) + 2 == (k : Int)) = false := beq_eq_false_iff_ne.2 (by omega)
            have b1 : (k : Int) < (n : Int) := by omega
            have b2 : 2 * (k : Int) + 2 < (n : Int) := by omega
            have p2 : (0 : Int) ≤ 2 * (k : Int) + 2 := by omega
            have e2 : (2 * (k : Int) + 2).toNat = 2 * k + 2 := by omega
            have e11 : ¬ k * 2 = (2 * k + 2) * 2 := by omega
            have e12 : ¬ k * 2 = (2 * k + 2) * 2 + 1 := by omega
            have e13 : ¬ k * 2 + 1 = (2 * k + 2) * 2 := by omega
            have e14 : ¬ k * 2 + 1 = (2 * k + 2) * 2 + 1 := by omega
            have e15 : ¬ (2 * k + 2) * 2 = k * 2 := by omega
            have e16 : ¬ (2 * k + 2) * 2 + 1 = k * 2 := by omega
            have e17 : ¬ (2 * k + 2) * 2 = k * 2 + 1 := by omega
            go_wp2_with fail
            go_region
            go_wp2
            go_roundw
            case rel =>
              obtain ⟨f', rfl⟩ : ∃ f', f = f' + 1 := ⟨f - 1, by omega⟩
              refine ⟨2 * k + 2, f', swp li k (2 * k + 2), by go_num, by omega, by omega, by show _ = _; rw [swp_length]; exact HLi.out, ?_, ?_, ?_⟩
              · show HeapAt _ _ _ _ _ _
                rw [swp_eq HXK.out HXT.out]
                exact ((hh4.out.put HLi.out hg k xt).put (by rw [List.length_set]; exact HLi.out) hg (2 * k + 2) xk).drew
              · exact ((hm4.out.trans (Moved.put _ hb g n cap k _ _)).trans (Moved.put _ hb g n cap (2 * k + 2) _ _)).drew
              · exact (down_go HT2.out (by omega)).symm.trans hdn.out
            case measure => simp [intOf]; omega
          | false =>
            have HT2 : Hid (top2 worst li k = 2 * k + 1) := by show top2 _ _ _ = _; simp [top2, HT1.out, hlt2]
            clear hlt2
            obtain ⟨xk, hxk⟩ : ∃ x, li[k]? = some x := ⟨_, List.getElem?_eq_getElem (by rw [HLi.out]; omega)⟩
            obtain ⟨xt, hxt⟩ : ∃ x, li[2 * k + 1]? = some x := ⟨_, List.getElem?_eq_getElem (by rw [HLi.out]; omega)⟩
            obtain ⟨ck0, ck1, fk0, fk1⟩ := hh4.out.item HLi.out hxk
            obtain ⟨ct0, ct1, ft0, ft1⟩ := hh4.out.item HLi.out hxt
            have HXK : Hid (li[k]? = some xk) := hxk
            have HXT : Hid (li[2 * k + 1]? = some xt) := hxt
            clear hxk hxt
            have tne : (2 * (k : Int) + 1 == (k : Int)) = false := beq_eq_false_iff_ne.2 (by omega)
            have b1 : (k : Int) < (n : Int) := by omega
            have b2 : 2 * (k : Int) + 1 < (n : Int) := by omega
            have p2 : (0 : Int) ≤ 2 * (k : Int) + 1 := by omega
            have e2 : (2 * (k : Int) + 1).toNat = 2 * k + 1 := by omega
            have e11 : ¬ k * 2 = (2 * k + 1) * 2 := by omega
            have e12 : ¬ k * 2 = (2 * k + 1) * 2 + 1 := by omega
            have e13 : ¬ k * 2 + 1 = (2 * k + 1) * 2 := by omega
            have e14 : ¬ k * 2 + 1 = (2 * k + 1) * 2 + 1 := by omega
            have e15 : ¬ (2 * k + 1) * 2 = k * 2 := by omega
            have e16 : ¬ (2 * k + 1) * 2 + 1 = k * 2 := by omega
            have e17 : ¬ (2 * k + 1) * 2 = k * 2 + 1 := by omega
            go_wp2_with fail
            go_region
            go_wp2
            go_roundw
            case rel =>
              obtain ⟨f', rfl⟩ : ∃ f', f = f' + 1 := ⟨f - 1, by omega⟩
              refine ⟨2 * k + 1, f', swp li k (2 * k + 1), by go_num, by omega, by omega, by show _ = _; rw [swp_length]; exact HLi.out, ?_, ?_, ?_⟩
              · show HeapAt _ _ _ _ _ _
                rw [swp_eq HXK.out HXT.out]
                exact ((hh4.out.put HLi.out hg k xt).put (by rw [List.length_set]; exact HLi.out) hg (2 * k + 1) xk).drew
              · exact ((hm4.out.trans (Moved.put _ hb g n cap k _ _)).trans (Moved.put _ hb g n cap (2 * k + 1) _ _)).drew
              · exact (down_go HT2.out (by omega)).symm.trans hdn.out
            case measure => simp [intOf]; omega

      | false =>
        have HT1 : Hid (top1 worst li k = k) := by show top1 _ _ _ = _; simp [top1, hlt1]
        clear hlt1
        go_wp2_with fail
        go_cut [99] (fun c wx => c = .bool (lt worst li (2 * k + 2) (k)) ∧ Hid (HeapAt wx B hb (.slice (some ⟨g, 0, none⟩) n cap) worst li) ∧ Hid (Moved W2 hb (.slice (some ⟨g, 0, none⟩) n cap) wx (.slice (some ⟨g, 0, none⟩) n cap)))
        case first =>
          by_cases c2 : 2 * k + 2 < n
          · obtain ⟨xl, hxl⟩ : ∃ x, li[2 * k + 2]? = some x := ⟨_, List.getElem?_eq_getElem (by rw [HLi.out]; omega)⟩
            obtain ⟨xk, hxk⟩ : ∃ x, li[k]? = some x := ⟨_, List.getElem?_eq_getElem (by rw [HLi.out]; omega)⟩
            have HT : Hid (lt worst li (2 * k + 2) (k) = bf worst xl.sim xk.sim) := by show lt _ _ _ _ = _; simp [lt, hxl, hxk]
            obtain ⟨cl0, cl1, _, _⟩ := hh3.out.item HLi.out hxl
            obtain ⟨ck0, ck1, _, _⟩ := hh3.out.item HLi.out hxk
            have hgl : g < wc.heap.size := World.block_lt_of_cell? _ _ ck0
            clear hxl hxk
            have c2' : 2 * (k : Int) + 2 < (n : Int) := by omega
            have p1 : (0 : Int) ≤ 2 * (k : Int) + 2 := by omega
            have e1 : (2 * (k : Int) + 2).toNat = 2 * k + 2 := by omega
            have b2 : (k : Int) < (n : Int) := by omega
            have p2 : (0 : Int) ≤ (k : Int) := by omega
            have e2 : ((k : Int)).toNat = k := by omega
            go_region_held3 (fun w' => w'.cell? ⟨hb, 0, none⟩ = some (.slice (some ⟨g, 0, none⟩) n cap) ∧ w'.cell? ⟨hb, 1, none⟩ = some (.bool worst) ∧ w'.cell? ⟨g, (2 * k + 2) * 2, none⟩ = some (.int .i32 xl.id) ∧ w'.cell? ⟨g, (2 * k + 2) * 2 + 1, none⟩ = some (.float .f32 xl.sim) ∧ w'.cell? ⟨g, (k) * 2, none⟩ = some (.int .i32 xk.id) ∧ w'.cell? ⟨g, (k) * 2 + 1, none⟩ = some (.float .f32 xk.sim))
              (first
                | go_keep
                | (go_split_ands
                   exact ⟨(hb2.cell (by exact hbl2)).trans dh0, (hb2.cell (by exact hbl2)).trans dh1, (hb2.cell (by exact hgl)).trans cl0, (hb2.cell (by exact hgl)).trans cl1, (hb2.cell (by exact hgl)).trans ck0, (hb2.cell (by exact hgl)).trans ck1⟩))
              ((go_at_call 23; refine (before_any hb worst xl xk _ ?_).mono ?_; exact dh1; rintro e w2 ⟨rfl, hb2⟩))
            go_wp2_with fail
            go_meet
            exact ⟨by rw [HT.out], hh3.out.below (undrew hb2), hm3.out.trans (Moved.of_below hb _ (undrew hb2))⟩
          · have HT : Hid (lt worst li (2 * k + 2) (k) = false) := by show lt _ _ _ _ = _; simp [lt, List.getElem?_eq_none (show li.length ≤ 2 * k + 2 by rw [HLi.out]; omega)]
            have c2' : decide (2 * (k : Int) + 2 < (n : Int)) = false := decide_eq_false (by omega)
            go_quiet (fail)
            go_wp2
            go_meet
            exact ⟨by rw [HT.out], hh3.out.drewN _, hm3.out.drewN _⟩
        case rest =>
          obtain ⟨rfl, hh4, hm4⟩ := hcut
          clear hh3 hm3 dh0 dh1 hbl2
          have dh0 := hh4.out.c0
          have dh1 := hh4.out.c1
          cases hlt2 : lt worst li (2 * k + 2) (k) with
          | true =>
            have hr := lt_true hlt2
            have HT2 : Hid (top2 worst li k = 2 * k + 2) := by show top2 _ _ _ = _; simp [top2, HT1.out, hlt2]
            rw [HLi.out] at hr
            obtain ⟨hr1, _⟩ := hr
            clear hlt2
            obtain ⟨xk, hxk⟩ : ∃ x, li[k]? = some x := ⟨_, List.getElem?_eq_getElem (by rw [HLi.out]; omega)⟩
            obtain ⟨xt, hxt⟩ : ∃ x, li[2 * k + 2]? = some x := ⟨_, List.getElem?_eq_getElem (by rw [HLi.out]; omega)⟩
            obtain ⟨ck0, ck1, fk0, fk1⟩ := hh4.out.item HLi.out hxk
            obtain ⟨ct0, ct1, ft0, ft1⟩ := hh4.out.item HLi.out hxt
            have HXK : Hid (li[k]? = some xk) := hxk
            have HXT : Hid (li[2 * k + 2]? = some xt) := hxt
            clear hxk hxt
            have tne : (2 * (k : Int) + 2 == (k : Int)) = false := beq_eq_false_iff_ne.2 (by omega)
            have b1 : (k : Int) < (n : Int) := by omega
            have b2 : 2 * (k : Int) + 2 < (n : Int) := by omega
            have p2 : (0 : Int) ≤ 2 * (k : Int) + 2 := by omega
            have e2 : (2 * (k : Int) + 2).toNat = 2 * k + 2 := by omega
            have e11 : ¬ k * 2 = (2 * k + 2) * 2 := by omega
            have e12 : ¬ k * 2 = (2 * k + 2) * 2 + 1 := by omega
            have e13 : ¬ k * 2 + 1 = (2 * k + 2) * 2 := by omega
            have e14 : ¬ k * 2 + 1 = (2 * k + 2) * 2 + 1 := by omega
            have e15 : ¬ (2 * k + 2) * 2 = k * 2 := by omega
            have e16 : ¬ (2 * k + 2) * 2 + 1 = k * 2 := by omega
            have e17 : ¬ (2 * k + 2) * 2 = k * 2 + 1 := by omega
            go_wp2_with fail
            go_region
            go_wp2
            go_roundw
            case rel =>
              obtain ⟨f', rfl⟩ : ∃ f', f = f' + 1 := ⟨f - 1, by omega⟩
              refine ⟨2 * k + 2, f', swp li k (2 * k + 2), by go_num, by omega, by omega, by show _ = _; rw [swp_length]; exact HLi.out, ?_, ?_, ?_⟩
              · show HeapAt _ _ _ _ _ _
                rw [swp_eq HXK.out HXT.out]
                exact ((hh4.out.put HLi.out hg k xt).put (by rw [List.length_set]; exact HLi.out) hg (2 * k + 2) xk).drew
              · exact ((hm4.out.trans (Moved.put _ hb g n cap k _ _)).trans (Moved.put _ hb g n cap (2 * k + 2) _ _)).drew
              · exact (down_go HT2.out (by omega)).symm.trans hdn.out
            case measure => simp [intOf]; omega
          | false =>
            have HT2 : Hid (top2 worst li k = k) := by show top2 _ _ _ = _; simp [top2, HT1.out, hlt2]
            clear hlt2
            have HD : Hid (li = R) := (down_stop HT2.out).symm.trans hdn.out
            have teq : ((k : Int) == (k : Int)) = true := by simp
            have hN0 : wc.heap[w.heap.size]? = some (.cells #[Value.int IntKind.i32 0, Value.float FloatKind.f32 0] 32 (0, 0)) := (hm4.out.block _ (by omega) (by omega) (by intro e; have := Option.some.inj e; simp at this; omega)).trans HB0.out
            have hN1 : wc.heap[w.heap.size + 1]? = some (.cells #[Value.int IntKind.i32 x.id, Value.float FloatKind.f32 x.sim] 32 (0, 0)) := (hm4.out.block _ (by omega) (by omega) (by intro e; have := Option.some.inj e; simp at this; omega)).trans HB1.out
            obtain ⟨r0, r1, r2, r3⟩ := pair_cells hN0
            obtain ⟨s0, s1, _, _⟩ := pair_cells hN1
            have HN0 : Hid (wc.heap[w.heap.size]? = some (.cells #[Value.int IntKind.i32 0, Value.float FloatKind.f32 0] 32 (0, 0))) := hN0
            clear hN0 hN1
            go_wp2_with fail
            refine bodyPost_ret (v := .agg #[.int .i32 x.id, .float .f32 x.sim]) (by simp [results, Try.results21, go_sem, r0, r1]) rfl ⟨rfl, .slice (some ⟨g, 0, none⟩) n cap, ?_, ?_⟩
            · have hfin : popL worst l = li := by rw [HD.out, ← HR.out, popL, HLd.out, hln.out]
              rw [hfin]
              exact (hh4.out.far w.heap.size 0 _ (by omega) (by intro e; have := Option.some.inj e; simp at this; omega)).far w.heap.size 1 _ (by omega) (by intro e; have := Option.some.inj e; simp at this; omega)
            · exact ((((Moved.of_below hb _ HK1.out).trans HM2.out).trans hm4.out).late _ 0 _ (Nat.le_refl _)).late _ 1 _ (Nat.le_refl _)


end Go.Proofs.Qxb6617404a

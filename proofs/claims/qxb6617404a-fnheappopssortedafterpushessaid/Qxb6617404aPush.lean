/-
  (heap).push
-/
import Derived.Test.Qxb6617404aBase
import Derived.Deep.RegionLaw
import Derived.Deep.DeepCutAuto
import Derived.BigRegion
namespace Go.Proofs.Qxb6617404a
open Go.RowKit
attribute [local go_sem] run_store_float

/-- The heap's struct in block hb; its items in a row of the call's own. -/
structure HeapAt (w : World) (B hb : Nat) (v : Value) (worst : Bool) (l : List It) : Prop where
  hd : w.heap[hb]? = some (.cells #[v, .bool worst] 45 (0, 0))
  own : w.ownsRow B 32 2 v l.length (cellsOf l)
  ne : v.ownBlock ≠ some hb

theorem HeapAt.c0 {w : World} {B hb : Nat} {v : Value} {worst : Bool} {l : List It} (h : HeapAt w B hb v worst l) : w.cell? ⟨hb, 0, none⟩ = some v := by
  simp [World.cell?, h.hd]
theorem HeapAt.c1 {w : World} {B hb : Nat} {v : Value} {worst : Bool} {l : List It} (h : HeapAt w B hb v worst l) : w.cell? ⟨hb, 1, none⟩ = some (.bool worst) := by
  simp [World.cell?, h.hd]
theorem HeapAt.f0 {w : World} {B hb : Nat} {v : Value} {worst : Bool} {l : List It} (h : HeapAt w B hb v worst l) (i : Nat) : w.frozen? ⟨hb, i, none⟩ = false := by
  simp [World.frozen?, h.hd]

theorem lt_two (w : World) (O1 O2 : Obj) (k : Nat) (h : k < w.heap.size + 2) : k < ((w.alloc O1).alloc O2).drew.heap.size := by
  show k < ((w.alloc O1).alloc O2).heap.size
  rw [World.size_alloc, World.size_alloc]; omega

theorem kept_two {w w1 : World} {O1 O2 : Obj} {row : Option Nat} (hg : ((w.alloc O1).alloc O2).drew.grownBy w1 row) (k i : Nat) (u : Value) (hk : k < w.heap.size + 2) (hne : some k ≠ row) (hc : ((w.alloc O1).alloc O2).cell? ⟨k, i, none⟩ = some u) : w1.cell? ⟨k, i, none⟩ = some u := by
  rw [hg.cell_far ⟨k, i, none⟩ (lt_two w _ _ _ hk) hne]
  exact hc

theorem kept_two_f {w w1 : World} {O1 O2 : Obj} {row : Option Nat} (hg : ((w.alloc O1).alloc O2).drew.grownBy w1 row) (k i : Nat) (hk : k < w.heap.size + 2) (hne : some k ≠ row) (hc : ((w.alloc O1).alloc O2).frozen? ⟨k, i, none⟩ = false) : w1.frozen? ⟨k, i, none⟩ = false := by
  rw [hg.frozen_far ⟨k, i, none⟩ (lt_two w _ _ _ hk) hne]
  exact hc

theorem new_first (w : World) (cs : Array Value) (O2 : Obj) (i : Nat) (u : Value) (h : cs[i]? = some u) : ((w.alloc (.cells cs 32)).alloc O2).cell? ⟨w.heap.size, i, none⟩ = some u := by
  rw [World.cell?_alloc_past O2 w.heap.size i (by rw [World.size_alloc]; omega), World.cell?_alloc_at cs 32 w.heap.size i rfl]
  exact h

theorem news_second (w : World) (O : Obj) (a b : Value) : ∀ j u, [a, b][j]? = some u → ((w.alloc O).alloc (.cells #[a, b] 32)).drew.cell? ((⟨w.heap.size + 1, 0, none⟩ : Addr).add j) = some u := by
  have h := heap_alloc_new (w.alloc O) (.cells #[a, b] 32 (0, 0))
  rw [World.size_alloc] at h
  exact World.news_of_block (w := ((w.alloc O).alloc (.cells #[a, b] 32)).drew) (cs := #[a, b]) h

theorem undrew {w w' : World} (h : Below w.drew.heap.size w.drew w') : Below w.heap.size w w' := ⟨h.os, h.tape, h.output, h.size, h.block⟩

theorem setCell_grown (w : World) (k i : Nat) (u : Value) : w.grownBy (w.setCell ⟨k, i, none⟩ u) (some k) :=
  ⟨rfl, rfl, rfl, by simp [World.setCell], fun j _ hne => Below.heap_setCell _ _ _ _ (fun e => hne (by rw [e]))⟩

/-- From w, where the heap's items were v, to w', where they are v': nothing old has turned but the heap's struct and v's own row. -/
structure Moved (w : World) (hb : Nat) (v : Value) (w' : World) (v' : Value) : Prop where
  os : w'.os = w.os
  tape : w'.tape = w.tape
  output : w'.output = w.output
  size : w.heap.size ≤ w'.heap.size
  block : ∀ k, k < w.heap.size → k ≠ hb → some k ≠ v.ownBlock → w'.heap[k]? = w.heap[k]?
  at_ : v'.ownBlock = v.ownBlock ∨ ∃ g, v'.ownBlock = some g ∧ w.heap.size ≤ g

theorem Moved.refl (w : World) (hb : Nat) (v : Value) : Moved w hb v w v := ⟨rfl, rfl, rfl, Nat.le_refl _, fun _ _ _ _ => rfl, .inl rfl⟩

theorem Moved.trans {w w1 w2 : World} {hb : Nat} {v v1 v2 : Value} (h : Moved w hb v w1 v1) (k : Moved w1 hb v1 w2 v2) : Moved w hb v w2 v2 := by
  have hs := h.size
  refine ⟨k.os.trans h.os, k.tape.trans h.tape, k.output.trans h.output, Nat.le_trans h.size k.size, fun i hi h1 h2 => (k.block i (by omega) h1 ?_).trans (h.block i hi h1 h2), ?_⟩
  · rcases h.at_ with h3 | ⟨g, h3, hg⟩
    · rw [h3]; exact h2
    · rw [h3]; intro e; have := Option.some.inj e; omega
  · rcases k.at_ with k3 | ⟨g, k3, hg⟩
    · rcases h.at_ with h3 | ⟨g, h3, hg⟩
      · exact .inl (k3.trans h3)
      · exact .inr ⟨g, k3.trans h3, hg⟩
    · exact .inr ⟨g, k3, by omega⟩

theorem Moved.below {w w' : World} {hb : Nat} {v v' : Value} (h : Moved w hb v w' v') {B : Nat} (hB : B ≤ w.heap.size) (h1 : B ≤ hb) (h2 : ∀ g, v.ownBlock = some g → B ≤ g) : Below B w w' :=
  ⟨h.os, h.tape, h.output, h.size, fun k hk => h.block k (by omega) (by omega) (fun e => by have := h2 k e.symm; omega)⟩

theorem Moved.of_below {w w' : World} (hb : Nat) (v : Value) (h : Below w.heap.size w w') : Moved w hb v w' v :=
  ⟨h.os, h.tape, h.output, h.size, fun k hk _ _ => h.block k hk, .inl rfl⟩

theorem HeapAt.below {w w' : World} {B hb : Nat} {v : Value} {worst : Bool} {l : List It} (h : HeapAt w B hb v worst l) (hk : Below w.heap.size w w') : HeapAt w' B hb v worst l := by
  have hlt : hb < w.heap.size := World.block_lt_of_cell? _ _ h.c0
  refine ⟨(hk.block hb hlt).trans h.hd, h.own.kept (row := none) ⟨hk.os, hk.tape, hk.output, hk.size, fun i hi _ => hk.block i hi⟩ (by cases v.ownBlock <;> simp), h.ne⟩

/-- Behind 'h.items = append(h.items, r)'. -/
theorem appended {w w1 : World} {O1 O2 : Obj} {B hb gg cap : Nat} {v : Value} {worst : Bool} {l : List It} {r : It} (h : HeapAt w B hb v worst l)
    (hown : w1.ownsRow B 32 2 (.slice (some ⟨gg, 0, none⟩) (l.length + 1) cap) (l.length + 1) (cellsOf l ++ [.int .i32 r.id, .float .f32 r.sim]))
    (hg : ((w.alloc O1).alloc O2).drew.grownBy w1 v.ownBlock) (hat : v.ownBlock = some gg ∨ gg = w.heap.size + 2) :
    HeapAt (w1.setCell ⟨hb, 0, none⟩ (.slice (some ⟨gg, 0, none⟩) (l.length + 1) cap)) B hb (.slice (some ⟨gg, 0, none⟩) (l.length + 1) cap) worst (l ++ [r]) ∧
      Moved w hb v (w1.setCell ⟨hb, 0, none⟩ (.slice (some ⟨gg, 0, none⟩) (l.length + 1) cap)) (.slice (some ⟨gg, 0, none⟩) (l.length + 1) cap) := by
  have hlt : hb < w.heap.size := World.block_lt_of_cell? _ _ h.c0
  have hk : Below w.heap.size w ((w.alloc O1).alloc O2).drew := (((Below.refl w.heap.size w).alloc (Nat.le_refl _) O1).alloc (by simp) O2).drew
  have hne : gg ≠ hb := by
    rcases hat with h1 | h1
    · intro e; exact h.ne (by rw [h1, e])
    · omega
  have hblk : ∀ k, k < w.heap.size → some k ≠ v.ownBlock → w1.heap[k]? = w.heap[k]? := fun k hk1 hk2 => (hg.block k (lt_two w _ _ _ (by omega)) hk2).trans (hk.block k hk1)
  have hsz := hg.size
  have hsz2 := lt_two w O1 O2 (w.heap.size + 1) (by omega)
  refine ⟨⟨?_, ?_, by simpa [Value.ownBlock] using hne⟩, ⟨hg.os.trans hk.os, hg.tape.trans hk.tape, hg.output.trans hk.output, ?_, fun k hk1 hk2 hk3 => ?_, ?_⟩⟩
  · have h1 := (hblk hb hlt (Ne.symm h.ne)).trans h.hd
    simp only [World.setCell, Array.getElem?_modify, h1]
    simp
  · have h2 := hown.kept (setCell_grown w1 hb 0 (.slice (some ⟨gg, 0, none⟩) (l.length + 1) cap)) (.inr (by simpa [Value.ownBlock] using hne))
    rw [List.length_append, cellsOf_append]
    exact h2
  · simp only [World.setCell, Array.size_modify]; omega
  · rw [Below.heap_setCell _ _ _ _ (by exact hk2)]
    exact hblk k hk1 hk3
  · rcases hat with h1 | h1
    · exact .inl (by rw [h1]; rfl)
    · exact .inr ⟨gg, rfl, by omega⟩

theorem cellsOf_set (l : List It) (i : Nat) (z : It) : cellsOf (l.set i z) = ((cellsOf l).set (i * 2) (.int .i32 z.id)).set (i * 2 + 1) (.float .f32 z.sim) := by
  induction l generalizing i with
  | nil => simp [cellsOf]
  | cons y l ih =>
    cases i with
    | zero => simp [cellsOf, itCells]
    | succ i =>
      have e1 : (i + 1) * 2 = i * 2 + 2 := by omega
      have e2 : (i + 1) * 2 + 1 = i * 2 + 1 + 2 := by omega
      have := ih i
      simp only [cellsOf] at this
      rw [e2, e1]
      simp [cellsOf, itCells, this]

/-- One item stored into the row. -/
theorem HeapAt.put {w : World} {B hb g n cap : Nat} {worst : Bool} {l : List It} (h : HeapAt w B hb (.slice (some ⟨g, 0, none⟩) n cap) worst l) (hn : l.length = n) (hg : g ≠ hb) (i : Nat) (z : It) :
    HeapAt ((w.setCell ⟨g, i * 2, none⟩ (.int .i32 z.id)).setCell ⟨g, i * 2 + 1, none⟩ (.float .f32 z.sim)) B hb (.slice (some ⟨g, 0, none⟩) n cap) worst (l.set i z) := by
  have ho := h.own
  rw [hn] at ho
  refine ⟨?_, ?_, h.ne⟩
  · rw [Below.heap_setCell _ _ _ _ (by exact Ne.symm hg), Below.heap_setCell _ _ _ _ (by exact Ne.symm hg)]; exact h.hd
  · rw [List.length_set, hn, cellsOf_set]
    exact ((ho.stored (i * 2) (.int .i32 z.id)).1.stored (i * 2 + 1) (.float .f32 z.sim)).1

theorem Moved.put (w : World) (hb g n cap i : Nat) (a b : Value) :
    Moved w hb (.slice (some ⟨g, 0, none⟩) n cap) ((w.setCell ⟨g, i * 2, none⟩ a).setCell ⟨g, i * 2 + 1, none⟩ b) (.slice (some ⟨g, 0, none⟩) n cap) := by
  refine ⟨rfl, rfl, rfl, by simp [World.setCell], fun k _ _ h3 => ?_, .inl rfl⟩
  have : k ≠ g := fun e => h3 (by rw [e]; rfl)
  rw [Below.heap_setCell _ _ _ _ (by exact this), Below.heap_setCell _ _ _ _ (by exact this)]

theorem HeapAt.drew {w : World} {B hb : Nat} {v : Value} {worst : Bool} {l : List It} (h : HeapAt w B hb v worst l) : HeapAt w.drew B hb v worst l := ⟨h.hd, h.own, h.ne⟩
theorem Moved.drew {w w' : World} {hb : Nat} {v v' : Value} (h : Moved w hb v w' v') : Moved w hb v w'.drew v' := ⟨h.os, h.tape, h.output, h.size, h.block, h.at_⟩

/-- Two places changed over. -/
def swp (l : List It) (i j : Nat) : List It :=
  match l[i]?, l[j]? with
  | some x, some y => (l.set i y).set j x
  | _, _ => l

theorem swp_length (l : List It) (i j : Nat) : (swp l i j).length = l.length := by
  unfold swp; split <;> simp

theorem swp_eq {l : List It} {i j : Nat} {x y : It} (h1 : l[i]? = some x) (h2 : l[j]? = some y) : swp l i j = (l.set i y).set j x := by
  unfold swp; rw [h1, h2]

/-- The way up: from place i on, f steps at most. -/
def up (worst : Bool) : Nat → List It → Nat → List It
  | 0, l, _ => l
  | f + 1, l, i => if i = 0 then l else
    match l[i]?, l[(i - 1) / 2]? with
    | some x, some y => if bf worst x.sim y.sim then up worst f (swp l i ((i - 1) / 2)) ((i - 1) / 2) else l
    | _, _ => l

theorem up_zero (worst : Bool) (f : Nat) (l : List It) : up worst f l 0 = l := by
  cases f <;> simp [up]

theorem HeapAt.shape {w : World} {B hb : Nat} {v : Value} {worst : Bool} {l : List It} (h : HeapAt w B hb v worst l) (hl : 0 < l.length) :
    ∃ g cap, v = .slice (some ⟨g, 0, none⟩) l.length cap ∧ B ≤ g ∧ g ≠ hb ∧ l.length ≤ cap ∧ cap ≤ 9223372036854775807 := by
  rcases h.own.2 with ⟨_, h0⟩ | ⟨g, cap, cur, hv, hB, _, h1, h2, _⟩
  · omega
  · refine ⟨g, cap, hv, hB, ?_, h1, h2⟩
    intro e
    exact h.ne (by rw [hv, e]; rfl)

theorem HeapAt.item {w : World} {B hb g n cap : Nat} {worst : Bool} {l : List It} (h : HeapAt w B hb (.slice (some ⟨g, 0, none⟩) n cap) worst l) (hn : l.length = n) {i : Nat} {x : It} (hx : l[i]? = some x) :
    w.cell? ⟨g, i * 2, none⟩ = some (.int .i32 x.id) ∧ w.cell? ⟨g, i * 2 + 1, none⟩ = some (.float .f32 x.sim) ∧ w.frozen? ⟨g, i * 2, none⟩ = false ∧ w.frozen? ⟨g, i * 2 + 1, none⟩ = false := by
  have hi : i < l.length := by
    rcases Nat.lt_or_ge i l.length with h1 | h1
    · exact h1
    · rw [List.getElem?_eq_none h1] at hx; cases hx
  have ho := h.own
  rw [hn] at ho
  have hc := cellsOf_get l i x hx
  exact ⟨(ho.cellAt _ (by omega)).trans hc.1, (ho.cellAt _ (by omega)).trans hc.2, ho.frozenAt _, ho.frozenAt _⟩

/-- What push makes of the items. -/
def pushL (worst : Bool) (l : List It) (r : It) : List It := up worst l.length (l ++ [r]) l.length

/-- What stands behind a call that leaves the heap with the items L. -/
def Pushed (w : World) (B hb : Nat) (v : Value) (worst : Bool) (L : List It) (e : Ending) (w' : World) : Prop :=
  e = .returned (.tuple #[]) ∧ ∃ v', HeapAt w' B hb v' worst L ∧ Moved w hb v w' v'

theorem up_stop {worst : Bool} {f k p : Nat} {l : List It} {x y : It} (hp : p = (k - 1) / 2) (hx : l[k]? = some x) (hy : l[p]? = some y) (hb : bf worst x.sim y.sim = false) : up worst f l k = l := by
  subst hp
  cases f with
  | zero => rfl
  | succ f => simp [up, hx, hy, hb]

theorem up_go {worst : Bool} {f k p : Nat} {l : List It} {x y : It} (hk : 0 < k) (hp : p = (k - 1) / 2) (hx : l[k]? = some x) (hy : l[p]? = some y) (hb : bf worst x.sim y.sim = true) : up worst (f + 1) l k = up worst f (swp l k p) p := by
  subst hp
  simp only [up, hx, hy, hb]
  rw [if_neg (by omega), if_pos trivial]

set_option maxRecDepth 100000 in
set_option maxHeartbeats 1000000 in
theorem push_any (B hb : Nat) (v : Value) (worst : Bool) (l : List It) (r : It) (w : World) (h : Hid (HeapAt w B hb v worst l)) (hB : B ≤ w.heap.size) (hn : l.length ≤ 8192) :
    Calls Try.prog 20 #[.pointer (some ⟨hb, 0, none⟩), .agg #[.int .i32 r.id, .float .f32 r.sim]] w (Pushed w B hb v worst (pushL worst l r)) := by
  obtain ⟨i0, hi0, hz0, hz1, hz2⟩ := info_parts Try.info32
  have hc0 := h.out.c0
  have hf0 := h.out.f0 0
  have hlt : hb < w.heap.size := World.block_lt_of_cell? _ _ hc0
  have hne := h.out.ne
  have hown := h.out.own
  have hown1 : some w.heap.size ≠ v.ownBlock := fun e => Nat.lt_irrefl _ (hown.lt _ e.symm).2
  go_enter Try.func20, Try.ntmps20
  go_wp2_with fail
  have hfz : ∀ O1 O2, ((w.alloc O1).alloc O2).frozen? ⟨hb, 0, none⟩ = false := fun O1 O2 => by
    rw [(((Below.refl w.heap.size w).alloc (Nat.le_refl _) O1).alloc (by simp) O2).frozen (by exact hlt)]; exact hf0
  have hcz : ∀ O1 O2, ((w.alloc O1).alloc O2).cell? ⟨hb, 0, none⟩ = some v := fun O1 O2 => by
    rw [(((Below.refl w.heap.size w).alloc (Nat.le_refl _) O1).alloc (by simp) O2).cell (by exact hlt)]; exact hc0
  go_cut [13] (fun _ wx => ∃ v', HeapAt wx B hb v' worst (l ++ [r]) ∧ Moved w hb v wx v')
  case first =>
    go_region_law ((refine step_append_lies _ (by rfl) _ _ _ (by rfl) B 32 i0 _ 2 8 Try.underlying33 hi0 hz0 hz1 hz2 rfl (by omega) v l.length (cellsOf l) (by rfl) (((hown.alloc _).alloc _).drew) ⟨w.heap.size + 1, 0, none⟩ 1 1 [.int .i32 r.id, .float .f32 r.sim] (by rfl) (by rfl) (news_second w _ _ _) (by simp [Value.oneCell']) (by omega) (by unfold maxLen; omega) (by omega) (by simp; omega) (w.heap.size + 2) (by simp) ?_; intro gg cap w1 hownN hgrow hat hlt1; have hfz1 : w1.frozen? ⟨hb, 0, none⟩ = false := kept_two_f hgrow hb 0 (by omega) (Ne.symm hne) (hfz _ _); have hcz1 : w1.cell? ⟨hb, 0, none⟩ = some v := kept_two hgrow hb 0 v (by omega) (Ne.symm hne) (hcz _ _)))
    all_goals (go_wp2_with fail; go_meet; exact ⟨_, appended h.out hownN hgrow hat⟩)
  case rest =>
    obtain ⟨v1, hh1, hmv1⟩ := hcut
    obtain ⟨L, HL⟩ : ∃ L, Hid (l ++ [r] = L) := ⟨_, rfl⟩
    obtain ⟨R, HR⟩ : ∃ R, Hid (up worst l.length L l.length = R) := ⟨_, rfl⟩
    rw [HL.out] at hh1
    have hLn : L.length = l.length + 1 := by rw [← HL.out]; simp
    obtain ⟨g, cap, hv, hg1, hg2, hg3, hg4⟩ := hh1.shape (by omega)
    rw [hLn] at hv hg3
    subst hv
    have hc1 := hh1.c0
    have hLn2 : Hid (L.length = l.length + 1) := hLn
    clear hc0 hf0 hlt hne hown hown1 hfz hcz hLn
    go_wp2_with fail
    go_loopw [4] (fun i wr => ∃ (k f : Nat) (li : List It), i = .int .i64 k ∧ k ≤ l.length ∧ k ≤ f ∧ Hid (li.length = l.length + 1) ∧ Hid (HeapAt wr B hb (.slice (some ⟨g, 0, none⟩) (l.length + 1) cap) worst li) ∧ Hid (Moved wc hb (.slice (some ⟨g, 0, none⟩) (l.length + 1) cap) wr (.slice (some ⟨g, 0, none⟩) (l.length + 1) cap)) ∧ Hid (up worst f li k = R)) (fun i _ => (intOf i).toNat)
    case atStart => exact ⟨l.length, l.length, L, by go_num, by omega, by omega, hLn2, hh1, Moved.refl _ _ _, HR⟩
    case round =>
      obtain ⟨k, f, li, rfl, hk, hkf, HLi, hh, hm, hup⟩ := hrel
      rcases Nat.eq_zero_or_pos k with h0 | h0
      · subst h0
        have HF : Hid (li = R) := (up_zero worst f li).symm.trans hup.out
        go_wp2_with fail
        go_end0
        refine ⟨rfl, _, ?_, hmv1.trans hm.out⟩
        have hfin : pushL worst l r = li := by rw [HF.out, ← HR.out, pushL, HL.out]
        rw [hfin]
        exact hh.out
      · obtain ⟨p, hp⟩ : ∃ p, p = (k - 1) / 2 := ⟨_, rfl⟩
        have hpi : ((k : Int) - 1) / 2 = (p : Int) := by omega
        have hpk : p < k := by omega
        have HP : Hid (p = (k - 1) / 2) := hp
        clear hp
        have b1 : (k : Int) < (l.length : Int) + 1 := by omega
        have b2 : (p : Int) < (l.length : Int) + 1 := by omega
        obtain ⟨x, hx⟩ : ∃ x, li[k]? = some x := ⟨_, List.getElem?_eq_getElem (by rw [HLi.out]; omega)⟩
        obtain ⟨y, hy⟩ : ∃ y, li[p]? = some y := ⟨_, List.getElem?_eq_getElem (by rw [HLi.out]; omega)⟩
        obtain ⟨cx0, cx1, fx0, fx1⟩ := hh.out.item HLi.out hx
        obtain ⟨cy0, cy1, fy0, fy1⟩ := hh.out.item HLi.out hy
        have ch0 := hh.out.c0
        have ch1 := hh.out.c1
        have hbl : hb < wr.heap.size := World.block_lt_of_cell? _ _ ch0
        have hgl : g < wr.heap.size := World.block_lt_of_cell? _ _ cx0
        have HX : Hid (li[k]? = some x) := hx
        have HY : Hid (li[p]? = some y) := hy
        clear hx hy
        go_wp2_with fail
        go_region_held3 (fun w' => w'.cell? ⟨hb, 0, none⟩ = some (.slice (some ⟨g, 0, none⟩) (l.length + 1) cap) ∧ w'.cell? ⟨hb, 1, none⟩ = some (.bool worst) ∧ w'.cell? ⟨g, k * 2, none⟩ = some (.int .i32 x.id) ∧ w'.cell? ⟨g, k * 2 + 1, none⟩ = some (.float .f32 x.sim) ∧ w'.cell? ⟨g, p * 2, none⟩ = some (.int .i32 y.id) ∧ w'.cell? ⟨g, p * 2 + 1, none⟩ = some (.float .f32 y.sim))
          (first
            | go_keep
            | (go_split_ands
               exact ⟨(hb2.cell (by exact hbl)).trans ch0, (hb2.cell (by exact hbl)).trans ch1, (hb2.cell (by exact hgl)).trans cx0, (hb2.cell (by exact hgl)).trans cx1, (hb2.cell (by exact hgl)).trans cy0, (hb2.cell (by exact hgl)).trans cy1⟩))
          ((go_at_call 23; refine (before_any hb worst x y _ ?_).mono ?_; exact ch1; rintro e w2 ⟨rfl, hb2⟩))
        have hm2 := hm.out.trans (Moved.of_below hb _ (w' := w2) (undrew hb2))
        have hh2 := hh.out.below (w' := w2) (undrew hb2)
        cases hbf : bf worst x.sim y.sim with
        | false =>
          have HF : Hid (li = R) := (up_stop HP.out HX.out HY.out hbf).symm.trans hup.out
          go_wp2_with fail
          go_end0
          refine ⟨rfl, _, ?_, hmv1.trans hm2⟩
          have hfin : pushL worst l r = li := by rw [HF.out, ← HR.out, pushL, HL.out]
          rw [hfin]
          exact hh2
        | true =>
          obtain ⟨dx0, dx1, gx0, gx1⟩ := hh2.item HLi.out HX.out
          obtain ⟨dy0, dy1, gy0, gy1⟩ := hh2.item HLi.out HY.out
          have dh0 := hh2.c0
          have HM2 : Hid (Moved wc hb (.slice (some ⟨g, 0, none⟩) (l.length + 1) cap) w2 (.slice (some ⟨g, 0, none⟩) (l.length + 1) cap)) := hm2
          have HH2 : Hid (HeapAt w2 B hb (.slice (some ⟨g, 0, none⟩) (l.length + 1) cap) worst li) := hh2
          have HBF : Hid (bf worst x.sim y.sim = true) := hbf
          have e1 : ¬ k * 2 = p * 2 := by omega
          have e2 : ¬ k * 2 = p * 2 + 1 := by omega
          have e3 : ¬ k * 2 + 1 = p * 2 := by omega
          have e4 : ¬ k * 2 + 1 = p * 2 + 1 := by omega
          have e5 : ¬ p * 2 = k * 2 := by omega
          have e6 : ¬ p * 2 + 1 = k * 2 := by omega
          have e7 : ¬ p * 2 = k * 2 + 1 := by omega
          clear cx0 cx1 fx0 fx1 cy0 cy1 fy0 fy1 ch0 ch1 hb2 hbl hgl hm2 hh2 hc1 hm hh hbf
          go_wp2_with fail
          go_region
          go_wp2
          go_roundw
          case rel =>
            obtain ⟨f', rfl⟩ : ∃ f', f = f' + 1 := ⟨f - 1, by omega⟩
            refine ⟨p, f', swp li k p, rfl, by omega, by omega, by show _ = _; rw [swp_length]; exact HLi.out, ?_, ?_, ?_⟩
            · show HeapAt _ _ _ _ _ _
              rw [swp_eq HX.out HY.out]
              exact ((HH2.out.put HLi.out hg2 k y).put (by rw [List.length_set]; exact HLi.out) hg2 p x).drew
            · exact ((HM2.out.trans (Moved.put w2 hb g (l.length + 1) cap k _ _)).trans (Moved.put _ hb g (l.length + 1) cap p _ _)).drew
            · exact (up_go (by omega) HP.out HX.out HY.out HBF.out).symm.trans hup.out
          case measure => simp [intOf]; omega

end Go.Proofs.Qxb6617404a

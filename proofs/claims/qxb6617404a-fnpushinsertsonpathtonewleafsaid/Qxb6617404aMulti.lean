/-
  hbSameMultiset on a permutation: the plain law and the walk.
-/
import Derived.Test.Qxb6617404aRows2
namespace Go.Proofs.Qxb6617404a
open Go.RowKit
attribute [local go_sem] run_store_float

/-- By what two items are told apart. -/
def sg (a : It) : Int × Int × Bool := (a.id, rk a.sim, zneg a.sim)

theorem sameI_iff (a b : It) : sameI a b = true ↔ sg a = sg b := by
  simp [sameI, sameS, sg]

theorem sameI_refl (a : It) : sameI a a = true := (sameI_iff a a).2 rfl

/-- Of those that are used, how many satisfy p? -/
def cnt (p : It → Bool) : List It → List Bool → Nat
  | x :: xs, b :: bs => (if b && p x then 1 else 0) + cnt p xs bs
  | _, _ => 0

theorem cnt_none (p : It → Bool) (l : List It) (n : Nat) : cnt p l (List.replicate n false) = 0 := by
  induction l generalizing n with
  | nil => simp [cnt]
  | cons x l ih =>
    cases n with
    | zero => simp [cnt]
    | succ n => simp [List.replicate_succ, cnt, ih]

theorem cnt_set (p : It → Bool) (l : List It) (u : List Bool) (j : Nat) (y : It) (h1 : l[j]? = some y) (h2 : u[j]? = some false) : cnt p l (u.set j true) = cnt p l u + (if p y then 1 else 0) := by
  induction l generalizing u j with
  | nil => simp at h1
  | cons x l ih =>
    cases u with
    | nil => simp at h2
    | cons b u =>
      cases j with
      | zero =>
        simp at h1 h2
        subst h1 h2
        simp [cnt]
        omega
      | succ j =>
        simp at h1 h2
        simp [cnt, ih u j h1 h2]
        omega

theorem cnt_all (p : It → Bool) (l : List It) (u : List Bool) (hl : u.length = l.length) (h : ∀ (j : Nat) y b, l[j]? = some y → u[j]? = some b → b = true ∨ p y = false) : cnt p l u = l.countP p := by
  induction l generalizing u with
  | nil => simp [cnt]
  | cons x l ih =>
    cases u with
    | nil => simp at hl
    | cons b u =>
      have h0 := h 0 x b rfl rfl
      have h1 := ih u (by simpa using hl) (fun j y c hy hc => h (j + 1) y c (by simpa using hy) (by simpa using hc))
      rw [List.countP_cons]
      simp only [cnt, h1]
      rcases h0 with rfl | h0
      · simp; omega
      · simp [h0]

/-- What holds behind i rounds. -/
def Matched (rs want : List It) (i : Nat) (u : List Bool) : Prop :=
  u.length = want.length ∧ ∀ s, cnt (fun y => decide (sg y = s)) want u = (rs.take i).countP (fun y => decide (sg y = s))

theorem matched_start (rs want : List It) : Matched rs want 0 (List.replicate want.length false) :=
  ⟨by simp, fun s => by rw [cnt_none]; simp⟩

theorem matched_step {rs want : List It} {i j : Nat} {u : List Bool} {x y : It} (h : Matched rs want i u) (hx : rs[i]? = some x) (hy : want[j]? = some y) (hu : u[j]? = some false) (hs : sameI x y = true) : Matched rs want (i + 1) (u.set j true) := by
  refine ⟨by rw [List.length_set]; exact h.1, fun s => ?_⟩
  rw [cnt_set _ _ _ _ _ hy hu, h.2 s, List.take_add_one, hx, List.countP_append]
  have := (sameI_iff x y).1 hs
  simp [this, List.countP_cons]

theorem matched_found {rs want : List It} {i : Nat} {u : List Bool} {x : It} (h : Matched rs want i u) (hp : rs.Perm want) (hx : rs[i]? = some x)
    (hno : ∀ (j : Nat) y b, want[j]? = some y → u[j]? = some b → b = true ∨ sameI x y = false) : False := by
  have h1 := cnt_all (fun y => decide (sg y = sg x)) want u h.1 (fun j y b hy hb => by
    rcases hno j y b hy hb with h2 | h2
    · exact .inl h2
    · right
      refine decide_eq_false fun e => ?_
      rw [(sameI_iff x y).2 e.symm] at h2
      cases h2)
  have h2 := h.2 (sg x)
  have h3 : rs.countP (fun y => decide (sg y = sg x)) = want.countP (fun y => decide (sg y = sg x)) := hp.countP_eq _
  have h4 : (rs.take (i + 1)).countP (fun y => decide (sg y = sg x)) ≤ rs.countP (fun y => decide (sg y = sg x)) := (List.take_sublist _ _).countP_le
  rw [List.take_add_one, hx, List.countP_append] at h4
  simp at h4
  omega

theorem Try.info4 : (Try.prog.info? 4).map (fun i => (i.zero, i.size, i.bytes)) = some (some (.bool false), 1, 1) := by kernel_rfl

set_option maxRecDepth 100000 in
set_option maxHeartbeats 1000000 in
theorem multi_yes (a : Option Addr) (ca : Nat) (rs : List It) (b : Option Addr) (cb : Nat) (want : List It) (len : Nat) (w : World) (hl : len ≤ 1048576) (ha : Hid (Items w a len rs)) (hb : Hid (Items w b len want)) (hp : Hid (rs.Perm want)) (hok : Hid (Ok rs)) :
    Calls Try.prog 13 #[.slice a len ca, .slice b len cb] w fun e w' => e = .returned (.bool true) ∧ Below w.heap.size w w' := by
  have hmk := run_make_row' (P := Try.prog) 48 4 (.bool false) 1 Try.underlying48 Try.info4 rfl .i64 .i64 len (by omega) (by omega)
  have HL : Hid (want.length = len) := hb.out.1
  have hokw : Hid (Ok want) := hok.out.perm hp.out.symm
  go_enter Try.func13, Try.ntmps13
  go_wp2
  go_loopw [6] (fun i wr => ∃ (k : Nat) (u : List Bool) (f : Nat → Value), k ≤ len ∧ i = .int .i64 k ∧ Hid (wr.rowIs w.heap.size 4 len f) ∧ Hid (∀ j c, u[j]? = some c → f j = .bool c) ∧ Hid (Matched rs want k u) ∧ Hid (Below w.heap.size w wr)) (fun i _ => len - (intOf i).toNat)
  case atStart =>
    refine ⟨0, List.replicate want.length false, _, Nat.zero_le _, rfl, World.rowIs_made _ _ _ _, fun j c hc => ?_, matched_start rs want, (Below.refl _ _).alloc (Nat.le_refl _) _⟩
    rw [List.getElem?_replicate] at hc
    split at hc
    · cases hc; rfl
    · cases hc
  case round =>
    obtain ⟨k, u, f, hk, rfl, hrow, hf, hmt, hbel⟩ := hrel
    by_cases hlt : k < len
    · obtain ⟨ba, oa, x, rfl, hba, hgx, hx0', hx1'⟩ := ha.out.at hlt
      have HX : Hid (rs[k]? = some x) := hgx
      have hxn : Hid (isNaN x.sim = false) := hok.out.at hgx
      have HX0 : Hid (w.cell? ⟨ba, oa + k * 2, none⟩ = some (.int .i32 x.id)) := hx0'
      have HX1 : Hid (w.cell? ⟨ba, oa + k * 2 + 1, none⟩ = some (.float .f32 x.sim)) := hx1'
      clear hgx hx0' hx1'
      go_wp2
      obtain ⟨wo, hwo⟩ : ∃ wo : World, wo = wr := ⟨_, rfl⟩
      subst hwo
      go_loopw [7, 8] (fun fd j wr => ∃ (m : Nat), m ≤ len ∧ fd = .bool false ∧ j = .int .i64 m ∧ Hid (wr.rowIs w.heap.size 4 len f) ∧ Hid (Below w.heap.size w wr) ∧ Hid (∀ (j : Nat) y c, j < m → want[j]? = some y → u[j]? = some c → c = true ∨ sameI x y = false)) (fun _ j _ => len - (intOf j).toNat)
      case atStart => exact ⟨0, Nat.zero_le _, rfl, rfl, hrow, hbel, fun j y c hj => by omega⟩
      case round =>
        obtain ⟨m, hm, rfl, rfl, hrow2, hbel2, hno⟩ := hrel
        by_cases hlt2 : m < len
        · obtain ⟨bb, ob, y, rfl, hbb, hgy, hy0', hy1'⟩ := hb.out.at hlt2
          obtain ⟨c, hc⟩ : ∃ c, u[m]? = some c := ⟨_, List.getElem?_eq_getElem (by rw [hmt.out.1, HL.out]; exact hlt2)⟩
          have hcu : wr.cell? ⟨w.heap.size, m, none⟩ = some (.bool c) := by rw [hrow2.out.cell hlt2, hf.out m c hc]
          have hcf : wr.frozen? ⟨w.heap.size, m, none⟩ = false := hrow2.out.frozen m
          have HY : Hid (want[m]? = some y) := hgy
          have HC : Hid (u[m]? = some c) := hc
          have hyn : Hid (isNaN y.sim = false) := hokw.out.at hgy
          have hx0 : wr.cell? ⟨ba, oa + k * 2, none⟩ = some (.int .i32 x.id) := by rw [hbel2.out.cell (by exact hba)]; exact HX0.out
          have hx1 : wr.cell? ⟨ba, oa + k * 2 + 1, none⟩ = some (.float .f32 x.sim) := by rw [hbel2.out.cell (by exact hba)]; exact HX1.out
          have hy0 : wr.cell? ⟨bb, ob + m * 2, none⟩ = some (.int .i32 y.id) := by rw [hbel2.out.cell (by exact hbb)]; exact hy0'
          have hy1 : wr.cell? ⟨bb, ob + m * 2 + 1, none⟩ = some (.float .f32 y.sim) := by rw [hbel2.out.cell (by exact hbb)]; exact hy1'
          have hlw : w.heap.size < wr.heap.size := hrow2.out.lt
          have i1 : (k : Int) < (len : Int) := by omega
          have i2 : (m : Int) < (len : Int) := by omega
          clear hgy hy0' hy1' hc
          cases c with
          | true =>
            go_wp2
            go_quiet (fail)
            go_wp2
            go_roundw
            case rel =>
              exact ⟨m + 1, by omega, rfl, by go_num, hrow2.out, below_drewN hbel2.out _, fun j y' c' hj hy' hc' => by
                by_cases e : j = m
                · subst e; exact .inl (Option.some.inj (HC.out.symm.trans hc')).symm
                · exact hno.out j y' c' (by omega) hy' hc'⟩
            case measure => simp [intOf]; omega
          | false =>
            go_wp2
            go_region_held3 (fun w' => w'.cell? ⟨w.heap.size, m, none⟩ = some (.bool false) ∧ w'.cell? ⟨ba, oa + k * 2, none⟩ = some (.int .i32 x.id) ∧ w'.cell? ⟨ba, oa + k * 2 + 1, none⟩ = some (.float .f32 x.sim) ∧ w'.cell? ⟨bb, ob + m * 2, none⟩ = some (.int .i32 y.id) ∧ w'.cell? ⟨bb, ob + m * 2 + 1, none⟩ = some (.float .f32 y.sim))
              (first
                | go_keep
                | (go_split_ands
                   exact ⟨(hb2.cell (by exact hlw)).trans hcu, (hb2.cell (by show ba < wr.heap.size; omega)).trans hx0, (hb2.cell (by show ba < wr.heap.size; omega)).trans hx1, (hb2.cell (by show bb < wr.heap.size; omega)).trans hy0, (hb2.cell (by show bb < wr.heap.size; omega)).trans hy1⟩))
              ((go_at_call 17; refine (sameItem_any x y _ hxn.out hyn.out).mono ?_; rintro e w2 ⟨rfl, hb2⟩))
            have hbel3 : Below w.heap.size w w2 := hbel2.out.trans ((undrew hb2).mono (by omega))
            have hrow3 : w2.rowIs w.heap.size 4 len f := hrow2.out.of_block ((undrew hb2).block _ hlw)
            have hcu3 : w2.cell? ⟨w.heap.size, m, none⟩ = some (.bool false) := (hb2.cell (by exact hlw)).trans hcu
            have hcf3 : w2.frozen? ⟨w.heap.size, m, none⟩ = false := hrow3.frozen m
            have HB3 : Hid (Below w.heap.size w w2) := hbel3
            have HR3 : Hid (w2.rowIs w.heap.size 4 len f) := hrow3
            clear hbel3 hrow3 hb2 hcu hcf hx0 hx1 hy0 hy1
            cases hs : sameI x y with
            | true =>
              have HM : Hid (Matched rs want (k + 1) (u.set m true)) := matched_step hmt.out HX.out HY.out HC.out hs
              clear hs
              go_wp2
              go_roundw
              case rel =>
                refine ⟨k + 1, u.set m true, _, by omega, by go_num, HR3.out.set m (.bool true), fun j c' hc' => ?_, HM, HB3.out.setCell (Nat.le_refl _) _⟩
                rw [List.getElem?_set] at hc'
                by_cases e : m = j
                · subst e
                  rw [if_pos rfl] at hc'
                  rw [if_pos rfl]
                  split at hc'
                  · cases hc'; rfl
                  · cases hc'
                · rw [if_neg e] at hc'
                  rw [if_neg (Ne.symm e)]
                  exact hf.out j c' hc'
              case measure => simp [intOf]; omega
            | false =>
              have HS : Hid (sameI x y = false) := hs
              clear hs
              go_wp2
              go_roundw
              case rel =>
                exact ⟨m + 1, by omega, rfl, by go_num, HR3, HB3, fun j y' c' hj hy' hc' => by
                  by_cases e : j = m
                  · subst e; rw [← Option.some.inj (HY.out.symm.trans hy')]; exact .inr HS.out
                  · exact hno.out j y' c' (by omega) hy' hc'⟩
              case measure => simp [intOf]; omega
        · exfalso
          refine matched_found hmt.out hp.out HX.out (fun j y c hy hc => hno.out j y c ?_ hy hc)
          have h1 := get_lt hy
          rw [HL.out] at h1
          omega
    · go_wp2
      go_ret
      exact ⟨rfl, hbel.out⟩

end Go.Proofs.Qxb6617404a

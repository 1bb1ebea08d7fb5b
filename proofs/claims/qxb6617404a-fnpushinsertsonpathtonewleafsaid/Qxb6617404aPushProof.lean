/-
  THE STATEMENT FnPushInsertsOnPathToNewLeaf: the row.
-/
import Derived.Test.Qxb6617404aLawB
import Derived.Test.Qxb6617404aOpen
import Derived.Lib.SmallJoins
namespace Go.Proofs.Qxb6617404a
open Go.ChangeShapes Go.WideShapes Go.ChangeAt Go.RowKit Go.Joins
set_option linter.unusedVariables false

theorem Try.cells30 : Try.prog.cellsOf 30 = 2 := by kernel_rfl

/-- An item that came in, read as an item. -/
theorem opened_item {H : Type} {enc : TypeId × Value → H} {W : World} {v : Value} {d : DataW H} {p : List MemPlace} {base : Nat}
    (hv : Value.okWide Try.prog W .any base 30 v) (h : DataW.Trod enc Try.prog W 0 (fun _ => true) true 30 v d p) : ∃ r : It, v = .agg #[.int .i32 r.id, .float .f32 r.sim] := by
  obtain ⟨c0, c1, y0, y1, m, rfl, rfl, rfl, hy0, hy1⟩ := open_agg2 Try.underlying30 (by kernel_rfl) Try.cells30 hv h
  obtain ⟨a, e0, _, _⟩ := DataW.trod_int Try.underlying21 hy0
  obtain ⟨b, e1⟩ := trod_f32 hy1
  have h0 : c0 = .int .i32 a := by simpa using e0
  exact ⟨⟨a, b⟩, by rw [h0, e1]⟩

set_option maxRecDepth 100000 in
theorem push_lifted (os : Os) (started : os.Started) (H : Type) (enc : TypeId × Value → H) :
    ReturnsInHanded {} Try.checked os 4 .any (Rows.fnPushInsertsOnPathToNewLeafSpec.pre6 enc Try.prog Try.f4 Rows.fnPushInsertsOnPathToNewLeafRow.domain false) (Rows.fnPushInsertsOnPathToNewLeafSpec.post enc Try.prog Try.f4 false true false false) := by
  refine returnsInHanded_of_change (C := Try.checked) own started (by kernel_rfl) Try.func4
    (ChangeSpec.witness6 (enc := enc) (C := Try.checked) false ⟨#[], #[.slice none 0 0, .bool false, .agg #[.int .i32 0, .float .f32 0]], []⟩ 8 (by kernel_rfl) (by kernel_rfl) (by kernel_rfl) (by kernel_rfl)) ?_
  intro W base args ds gs before hval0 hW hcnd _
  have hval : ∀ (j : Nat) t v, Try.f4.params[j]? = some t → args[j]? = some v → Value.okWide Try.prog W .any base t v := hval0
  have hW' := hW
  obtain ⟨p, q, hA0, hV, rfl, hfz, hnd⟩ := hW
  have hA : DataW.TrodAll enc Try.prog W 0 (fun _ => true) true Try.f4.params.toList args.toList ds p := hA0
  rw [Try.params4] at hA hval
  obtain ⟨v0, vs0, d0, ds0, p0, q0, hargs, rfl, rfl, h0, r0⟩ := trodAll_cons hA
  obtain ⟨v1, vs1, d1, ds1, p1, q1, rfl, rfl, rfl, h1, r1⟩ := trodAll_cons r0
  obtain ⟨v2, vs2, d2, ds2, p2, q2, rfl, rfl, rfl, h2, r2⟩ := trodAll_cons r1
  obtain ⟨rfl, rfl, rfl⟩ := trodAll_nil r2
  obtain rfl : args = #[v0, v1, v2] := by cases args; simp_all
  obtain ⟨rfl, rfl⟩ := trodVars_none hV
  obtain ⟨a0, len0, cap0, rfl⟩ := okWide_slice Try.underlying22 (hval 0 22 v0 rfl rfl)
  obtain ⟨b1, rfl, rfl, rfl⟩ := open_bool Try.underlying4 (hval 1 4 v1 rfl rfl) h1
  obtain ⟨r, rfl⟩ := opened_item (hval 2 30 v2 rfl rfl) h2
  have k0 := h0
  have k2 := h2
  have lt0 : ∀ x ∈ p0, x.block < W.heap.size := by obtain ⟨m, hm⟩ := k0; exact DataW.trod_lt m _ _ _ hm
  have lt2 : ∀ x ∈ p2, x.block < W.heap.size := by obtain ⟨m, hm⟩ := k2; exact DataW.trod_lt m _ _ _ hm
  obtain ⟨l, hl, hc, hm⟩ := opened h0
  clear hA0 hval0
  refine (push_walk a0 len0 cap0 b1 r l W hm hl).mono fun e W' ⟨he, bel⟩ => ?_
  subst he
  exact ⟨_, rfl, _, _, _, [], _, [], hW', trodAll_mk1 (shut_bool Try.underlying4 _), (trodAll_cons_mk (Below.trod laidOut (by kernel_rfl) (of_decide_eq_true (by kernel_rfl)) k0 bel lt0) (trodAll_cons_mk (shut_bool Try.underlying4 _) (trodAll_cons_mk (Below.trod laidOut (by kernel_rfl) (of_decide_eq_true (by kernel_rfl)) k2 bel lt2) trodAll_mk0))), rfl, bel.frame _, fun h => by cases h⟩

/-- THE STATEMENT -/
theorem push_proved : Rows.FnPushInsertsOnPathToNewLeafSaid :=
  OpenClaim.holds_of_wide 4 Try.f4 rfl rfl rfl rfl rfl rfl rfl ⟨rfl, rfl, rfl, rfl, rfl⟩ rfl rfl rfl rfl rfl (by kernel_rfl) Try.func4 (by kernel_rfl)
    (of_decide_eq_true (by kernel_rfl)) (by unfold Func.isWrapper; first | (rw [if_pos (by decide +kernel)]; kernel_rfl) | (rw [if_neg (by decide +kernel)]; exact ⟨rfl, rfl⟩))
    (fun os started H enc _ => push_lifted os started H enc)

end Go.Proofs.Qxb6617404a

/-
  THE LAW FnAppendBytesFieldTwoFieldsDecode: the walk.
-/
import Derived.Test.Qxb6617351aCheck
namespace Go.Proofs.Qxb6617351a
open Go.RowKit

theorem below_grown {w w' : World} (h : Below w.heap.size w w') : w.grownBy w' none := ⟨h.os, h.tape, h.output, h.size, fun i hi _ => h.block i hi⟩

theorem owns_below {w w' : World} {B : Nat} {v : Value} {n : Nat} {xs : List Value} (h : w.ownsRow B 5 1 v n xs) (hb : Below w.heap.size w w') : w'.ownsRow B 5 1 v n xs :=
  h.kept (below_grown hb) (by cases v.ownBlock <;> simp)

set_option maxRecDepth 100000 in
set_option maxHeartbeats 2000000 in
theorem two_walk (a0 : Option Addr) (c0 : Nat) (z0 : List UInt8) (n1 : Nat) (a2 : Option Addr) (c2 : Nat) (z2 : List UInt8) (n2 : Nat) (a4 : Option Addr) (c4 : Nat) (z4 : List UInt8) (w : World) (hn1 : n1 < 18446744073709551616) (hn2 : n2 < 18446744073709551616)
    (h0 : z0.length ≤ 9223372036854775807) (h2 : z2.length ≤ 9223372036854775807) (h4 : z4.length ≤ 9223372036854775807) (hb0 : Hid (Bytes w a0 z0.length z0)) (hb2 : Hid (Bytes w a2 z2.length z2)) (hb4 : Hid (Bytes w a4 z4.length z4)) :
    Calls Try.prog 3 #[.slice a0 z0.length c0, .int .u64 n1, .slice a2 z2.length c2, .int .u64 n2, .slice a4 z4.length c4] w fun e w' => e = .returned (.bool true) ∧ Below w.heap.size w w' := by
  go_enter Try.func3, Try.ntmps3
  go_wp2_with fail
  refine (bytes5 a0 z0.length c0 n1 a2 z2.length c2 n2 a4 z4.length c4 w h0 h2 h4).mono ?_
  rintro e w1 ⟨c, rfl, hw, hfit⟩
  subst w1
  cases c with
  | false =>
    clear hfit
    go_wp2_with fail
    go_ret
    exact ⟨rfl, Below.refl _ _⟩
  | true =>
    have hT := hfit rfl
    clear hfit h0 h2 h4
    by_cases q0 : 262144 < z0.length
    · go_wp2_with fail
      go_ret
      exact ⟨rfl, Below.refl _ _⟩
    by_cases q2 : 262144 < z2.length
    · go_wp2_with fail
      go_ret
      exact ⟨rfl, Below.refl _ _⟩
    by_cases q4 : 262144 < z4.length
    · go_wp2_with fail
      go_ret
      exact ⟨rfl, Below.refl _ _⟩
    have l0 : z0.length ≤ 262144 := by omega
    have l2 : z2.length ≤ 262144 := by omega
    have l4 : z4.length ≤ 262144 := by omega
    clear hT q0 q2 q4
    go_wp2_with fail
    refine (clone_any a0 z0.length c0 z0 w.heap.size w (Nat.le_refl _) (by omega) hb0).mono ?_
    rintro e w1 ⟨v1, rfl, hown1, hbel1, _⟩
    obtain ⟨aM, cM, rfl, hM, hcM, _, hmM, _, _⟩ := bytes_of_owns hown1
    have hs1 := hbel1.size
    go_wp2_with fail
    refine (clone_any a2 z2.length c2 z2 w.heap.size w1 (by omega) (by omega) (hb2.out.below hbel1)).mono ?_
    rintro e w2 ⟨v2, rfl, hown2, hbel2, _⟩
    obtain ⟨aV, cV, rfl, hV, hcV, _, hmV, _, _⟩ := bytes_of_owns hown2
    have hs2 := hbel2.size
    have k2 : Below w.heap.size w w2 := hbel1.trans (hbel2.mono hs1)
    go_wp2_with fail
    refine (clone_any a4 z4.length c4 z4 w.heap.size w2 (by omega) (by omega) (hb4.out.below k2)).mono ?_
    rintro e w3 ⟨v3, rfl, hown3, hbel3, _⟩
    obtain ⟨aW, cW, rfl, hW, hcW, _, hmW, _, _⟩ := bytes_of_owns hown3
    have hs3 := hbel3.size
    have k3 : Below w.heap.size w w3 := k2.trans (hbel3.mono (by omega))
    go_wp2_with fail
    refine (clone_any a0 z0.length c0 z0 w.heap.size w3 (by omega) (by omega) (hb0.out.below k3)).mono ?_
    rintro e w4 ⟨v4, rfl, hown4, hbel4, hblk4⟩
    have hs4 := hbel4.size
    have k4 : Below w.heap.size w w4 := k3.trans (hbel4.mono (by omega))
    go_wp2_with fail
    refine (clone_any a2 z2.length c2 z2 w.heap.size w4 (by omega) (by omega) (hb2.out.below k4)).mono ?_
    rintro e w5 ⟨v5, rfl, hown5, hbel5, hblk5⟩
    obtain ⟨aX, cX, rfl, hX, hcX, _, hmX, hnX, hoX⟩ := bytes_of_owns hown5
    have hs5 := hbel5.size
    have k5 : Below w.heap.size w w5 := k4.trans (hbel5.mono (by omega))
    go_wp2_with fail
    refine (clone_any a4 z4.length c4 z4 w.heap.size w5 (by omega) (by omega) (hb4.out.below k5)).mono ?_
    rintro e w6 ⟨v6, rfl, hown6, hbel6, hblk6⟩
    obtain ⟨aY, cY, rfl, hY, hcY, _, hmY, hnY, hoY⟩ := bytes_of_owns hown6
    have hs6 := hbel6.size
    have k6 : Below w.heap.size w w6 := k5.trans (hbel6.mono (by omega))
    have hown46 : w6.ownsRow w.heap.size 5 1 v4 z0.length (Lib.byteCells z0) := owns_below hown4 (hbel5.trans (hbel6.mono hs5))
    have hv4 : ∀ g, v4.ownBlock = some g → g = w3.heap.size ∧ g < w4.heap.size := by
      intro g hg
      have h1 := owns_lt hown4 _ hg
      rcases hblk4 with h3 | h3
      · rw [h3] at hg; cases hg
      · rw [h3] at hg; exact ⟨(Option.some.inj hg).symm, h1.2⟩
    have hX6 : Bytes w6 aX z2.length z2 := hX.below hbel6
    have neX : ∀ ad, aX = some ad → v4.ownBlock ≠ some ad.block := by
      intro ad hA e
      have h1 := hv4 _ e
      have h2 := (hoX ad hA).1
      rcases hblk5 with h3 | h3
      · rw [h3] at h2; cases h2
      · rw [h3] at h2; have := Option.some.inj h2; omega
    have bY : ∀ ad, aY = some ad → ad.block = w5.heap.size ∧ ad.block < w6.heap.size := by
      intro ad hA
      have h2 := (hoY ad hA).1
      have h1 := owns_lt hown6 _ h2
      rcases hblk6 with h3 | h3
      · rw [h3] at h2; cases h2
      · rw [h3] at h2; exact ⟨(Option.some.inj h2).symm, h1.2⟩
    have neY : ∀ ad, aY = some ad → v4.ownBlock ≠ some ad.block := by
      intro ad hA e
      have h1 := hv4 _ e
      have h2 := bY ad hA
      omega
    go_wp2_with fail
    refine (shim_any w.heap.size z0.length n1 v4 (Lib.byteCells z0) aX z2.length cX z2 w6 hown46 (by omega) (by omega) (by omega) hX6 hnX neX).mono ?_
    rintro e w7 ⟨v7, rfl, hown7, hadd7⟩
    obtain ⟨fl1, fl2, fl3⟩ := field_len n1 z2 (by omega)
    generalize hF : field n1 z2 = F at hown7 fl1
    have HF : Hid (field n1 z2 = F) := hF
    have hFs : F.length ≤ 300000 := by omega
    clear hF fl1 fl2 fl3
    rw [← Lib.byteCells_append] at hown7
    have hs7 := hadd7.1.size
    have hv4' : ∀ g, v4.ownBlock = some g → w3.heap.size ≤ g := fun g hg => by have := hv4 g hg; omega
    have m7 : Below w1.heap.size w1 w7 := ((((hbel2.trans (hbel3.mono hs2)).trans (hbel4.mono (by omega))).trans (hbel5.mono (by omega))).trans (hbel6.mono (by omega))).trans (hadd7.below (by omega) (fun g hg => by have := hv4' g hg; omega))
    have v7b : Below w2.heap.size w2 w7 := (((hbel3.trans (hbel4.mono hs3)).trans (hbel5.mono (by omega))).trans (hbel6.mono (by omega))).trans (hadd7.below (by omega) (fun g hg => by have := hv4' g hg; omega))
    have w7b : Below w3.heap.size w3 w7 := ((hbel4.trans (hbel5.mono hs4)).trans (hbel6.mono (by omega))).trans (hadd7.below (by omega) (fun g hg => hv4' g hg))
    have k7 : Below w.heap.size w w7 := k6.trans (hadd7.below (by omega) (fun g hg => (owns_lt hown46 g hg).1))
    have hY7 : Bytes w7 aY z4.length z4 := hY.added hadd7 neY
    have own7 : ∀ g, v7.ownBlock = some g → w3.heap.size ≤ g ∧ (∀ ad, aY = some ad → g ≠ ad.block) ∧ g < w7.heap.size := by
      intro g hg
      refine ⟨?_, ?_, (owns_lt hown7 g hg).2⟩
      · rcases hadd7.2 with h | ⟨g', h, hle⟩
        · exact hv4' g (h ▸ hg)
        · rw [h] at hg; have := Option.some.inj hg; omega
      · intro ad hA e
        rcases hadd7.2 with h | ⟨g', h, hle⟩
        · exact neY ad hA (by rw [← h, hg, e])
        · rw [h] at hg; have := Option.some.inj hg; have := bY ad hA; omega
    obtain ⟨aO, cO, rfl, hO, hcO, hlO, hmO, _, _⟩ := bytes_of_owns hown7
    clear hown1 hown2 hown3 hown4 hown5 hown6 hown46 hbel1 hbel2 hbel3 hbel4 hbel5 hbel6 k2 k3 k4 k5 k6 hblk4 hblk5 hblk6 hadd7 hv4 hv4' hX hX6 hY neX neY bY hoX hoY
    go_wp2_with fail
    refine (clone_any aO (z0.length + F.length) cO (z0 ++ F) w.heap.size w7 (by omega) (by omega) hO).mono ?_
    rintro e w8 ⟨v8, rfl, hown8, hbel8, hblk8⟩
    rw [List.length_append] at hown8
    obtain ⟨aK, cK, rfl, hK, hcK, _, hmK, _, hoK⟩ := bytes_of_owns hown8
    have hs8 := hbel8.size
    have hown78 := owns_below hown7 hbel8
    have neK : ∀ ad, aK = some ad → (Value.slice aO (z0.length + F.length) cO).ownBlock ≠ some ad.block := by
      intro ad hA e
      have h1 := own7 _ e
      have h2 := (hoK ad hA).1
      rcases hblk8 with h3 | h3
      · rw [h3] at h2; cases h2
      · rw [h3] at h2; have := Option.some.inj h2; omega
    have neY : ∀ ad, aY = some ad → (Value.slice aO (z0.length + F.length) cO).ownBlock ≠ some ad.block := fun ad hA e => (own7 _ e).2.1 ad hA rfl
    go_wp2_with fail
    refine (shim_any w.heap.size (z0.length + F.length) n2 (.slice aO (z0.length + F.length) cO) (Lib.byteCells (z0 ++ F)) aY z4.length cY z4 w8 hown78 (by omega) (by omega) (by omega) (hY7.below hbel8) hnY neY).mono ?_
    rintro e w9 ⟨v9, rfl, hown9, hadd9⟩
    obtain ⟨gl1, gl2, gl3⟩ := field_len n2 z4 (by omega)
    generalize hG : field n2 z4 = G at hown9 gl1
    have HG : Hid (field n2 z4 = G) := hG
    have hGs : G.length ≤ 300000 := by omega
    clear hG gl1 gl2 gl3
    rw [← Lib.byteCells_append] at hown9
    have hs9 := hadd9.1.size
    have hK9 : Hid (Bytes w9 aK (z0.length + F.length) (z0 ++ F)) := hK.added hadd9 neK
    have hM9 : Hid (Bytes w9 aM z0.length z0) := hM.below ((m7.trans (hbel8.mono m7.size)).trans (hadd9.below (by have := m7.size; omega) (fun g hg => by have := own7 g hg; omega)))
    have hV9 : Hid (Bytes w9 aV z2.length z2) := hV.below ((v7b.trans (hbel8.mono v7b.size)).trans (hadd9.below (by have := v7b.size; omega) (fun g hg => by have := own7 g hg; omega)))
    have hW9 : Hid (Bytes w9 aW z4.length z4) := hW.below ((w7b.trans (hbel8.mono w7b.size)).trans (hadd9.below (by have := w7b.size; omega) (fun g hg => by have := own7 g hg; omega)))
    have k9 : Hid (Below w.heap.size w w9) := (k7.trans (hbel8.mono k7.size)).trans (hadd9.below (by have := k7.size; omega) (fun g hg => (owns_lt hown7 g hg).1))
    obtain ⟨aZ, cZ, rfl, hZ, hcZ, _, hmZ, _, _⟩ := bytes_of_owns hown9
    have hZ9 : Hid (Bytes w9 aZ (z0.length + F.length + G.length) (z0 ++ F ++ G)) := hZ
    clear hown7 hown78 hown8 hown9 hbel8 hblk8 hadd9 hK hM hV hW hZ hY7 hO m7 v7b w7b k7 own7 neK neY hoK
    unfold maxLen at hmM hmV hmW hmX hmY hmO hmK hmZ
    go_wp2_with fail
    refine (prefix_yes aK (z0.length + F.length) cK aM z0.length cM z0 F _ (by omega) hcK hK9 hM9).mono ?_
    rintro e w10 ⟨rfl, p1, rfl⟩
    go_wp2_with fail
    refine (check_yes aK (z0.length + F.length) cK n1 aV cV z0 z2 _ hn1 (by omega) hcK (by rw [HF.out]; exact hK9.out.drewN _) (hV9.out.drewN _)).mono ?_
    rintro e w10 ⟨rfl, p2, rfl⟩
    go_wp2_with fail
    refine (prefix_yes aZ (z0.length + F.length + G.length) cZ aK (z0.length + F.length) cK (z0 ++ F) G _ (by omega) hcZ (hZ9.out.drewN _) (hK9.out.drewN _)).mono ?_
    rintro e w10 ⟨rfl, p3, rfl⟩
    go_wp2_with fail
    rw [show ((z0.length : Int) + (F.length : Int)) = (((z0 ++ F).length : Nat) : Int) from by rw [List.length_append]; omega]
    refine (check_yes aZ (z0.length + F.length + G.length) cZ n2 aW cW (z0 ++ F) z4 _ hn2 (by omega) hcZ (by rw [HG.out]; exact hZ9.out.drewN _) (hW9.out.drewN _)).mono ?_
    rintro e w10 ⟨rfl, p4, rfl⟩
    go_wp2_with fail
    go_ret
    exact ⟨rfl, below_drewN k9.out _⟩

end Go.Proofs.Qxb6617351a

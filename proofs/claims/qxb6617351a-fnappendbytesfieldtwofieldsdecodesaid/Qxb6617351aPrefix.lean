/-
  THE LAW FnAppendBytesFieldPrefixAndLength: the walk.
-/
import Derived.Test.Qxb6617351aRead
namespace Go.Proofs.Qxb6617351a
open Go.RowKit

theorem owns_lt {w : World} {B : Nat} {v : Value} {n : Nat} {xs : List Value} (h : w.ownsRow B 5 1 v n xs) (g : Nat) (hg : v.ownBlock = some g) : B ≤ g ∧ g < w.heap.size := by
  rcases h.2 with ⟨hv, _⟩ | ⟨g', cap, cur, hv, hB, hh, _⟩
  · subst hv; cases hg
  · subst hv
    obtain rfl : g' = g := Option.some.inj hg
    refine ⟨hB, ?_⟩
    rcases Nat.lt_or_ge g' w.heap.size with h5 | h5
    · exact h5
    · rw [Array.getElem?_eq_none h5] at hh; cases hh

theorem field_len (num : Nat) (zs : List UInt8) (h : zs.length ≤ 16777216) : (field num zs).length = (Lib.uvarint (keyOf num)).length + (Lib.uvarint zs.length).length + zs.length ∧ (Lib.uvarint (keyOf num)).length ≤ 10 ∧ (Lib.uvarint zs.length).length ≤ 10 := by
  refine ⟨by simp only [field, List.length_append]; omega, Lib.uvarint_length64 (keyOf_lt num), Lib.uvarint_length64 (by omega)⟩

theorem Bytes.tail {w : World} {a : Option Addr} {len : Nat} {pre rest : List UInt8} (h : Bytes w a len (pre ++ rest)) : Bytes w (a.map (·.add pre.length)) rest.length rest := by
  obtain ⟨h1, h2⟩ := h
  rw [List.length_append] at h1
  refine ⟨rfl, fun h0 => ?_⟩
  obtain ⟨b, o, ha, hlt, hc⟩ := h2 (by omega)
  refine ⟨b, o + pre.length, by rw [ha, Option.map_some, Go.WideShapes.add_plain], hlt, fun k x hx => ?_⟩
  have := hc (pre.length + k) x (by rw [List.getElem?_append_right (by omega), Nat.add_sub_cancel_left]; exact hx)
  rwa [← Nat.add_assoc] at this

theorem mask_eq (num : Nat) (h : num < 18446744073709551616) : bits .and .u64 (num : Int) 2305843009213693951 = ((num % 2305843009213693952 : Nat) : Int) := by
  have := bits_mask .u64 64 (by decide) wraps_u64 61 (by decide) (num : Int) (by omega) (by omega)
  have e : ((2 : Int) ^ 61 - 1) = 2305843009213693951 := by decide
  have e2 : ((2 : Int) ^ 61) = 2305843009213693952 := by decide
  rw [e, e2] at this
  rw [this]
  omega

theorem key_mask (num : Nat) (h : num < 18446744073709551616) : IntKind.u64.wrap (IntKind.u64.wrap (bits .and .u64 (num : Int) 2305843009213693951 * 8) + 2) = (keyOf num : Int) := by
  rw [mask_eq num h, wrap_u64_mod, wrap_u64_mod]
  unfold keyOf
  omega

set_option maxRecDepth 100000 in
set_option maxHeartbeats 1000000 in
theorem prefix_walk (a0 : Option Addr) (c0 : Nat) (z0 : List UInt8) (num : Nat) (a2 : Option Addr) (c2 : Nat) (z2 : List UInt8) (w : World) (hnum : num < 18446744073709551616)
    (h0 : z0.length ≤ 9223372036854775807) (h2 : z2.length ≤ 9223372036854775807) (hb0 : Hid (Bytes w a0 z0.length z0)) (hb2 : Hid (Bytes w a2 z2.length z2)) :
    Calls Try.prog 4 #[.slice a0 z0.length c0, .int .u64 num, .slice a2 z2.length c2] w fun e w' => e = .returned (.bool true) ∧ Below w.heap.size w w' := by
  go_enter Try.func4, Try.ntmps4
  go_wp2_with fail
  refine (bytes10 a0 z0.length c0 num a2 z2.length c2 w h0 h2).mono ?_
  rintro e w1 ⟨c, rfl, hw, hfit⟩
  subst w1
  cases c with
  | false =>
    clear hfit
    go_wp2_with fail
    go_ret
    exact ⟨rfl, Below.refl _ _⟩
  | true =>
    have hT := hfit rfl
    clear hfit h0 h2
    by_cases q0 : 524288 < z0.length
    · go_wp2_with fail
      go_ret
      exact ⟨rfl, Below.refl _ _⟩
    by_cases q2 : 524288 < z2.length
    · go_wp2_with fail
      go_ret
      exact ⟨rfl, Below.refl _ _⟩
    have l0 : z0.length ≤ 524288 := by omega
    have l2 : z2.length ≤ 524288 := by omega
    clear hT q0 q2
    go_wp2_with fail
    refine (clone_any a0 z0.length c0 z0 w.heap.size w (Nat.le_refl _) (by omega) hb0).mono ?_
    rintro e w1 ⟨v1, rfl, hown1, hbel1, _⟩
    obtain ⟨aM, cM, rfl, hM, hcM, _, hmM, _, _⟩ := bytes_of_owns hown1
    have hs1 := hbel1.size
    go_wp2_with fail
    refine (clone_any a2 z2.length c2 z2 w.heap.size w1 (by omega) (by omega) (hb2.out.below hbel1)).mono ?_
    rintro e w2 ⟨v2, rfl, hown2, hbel2, _⟩
    obtain ⟨aW, cW, rfl, hW, hcW, _, hmW, _, _⟩ := bytes_of_owns hown2
    have hs2 := hbel2.size
    have hbel12 : Below w.heap.size w w2 := hbel1.trans (hbel2.mono hs1)
    go_wp2_with fail
    refine (clone_any a0 z0.length c0 z0 w.heap.size w2 (by omega) (by omega) (hb0.out.below hbel12)).mono ?_
    rintro e w3 ⟨v3, rfl, hown3, hbel3, hblk3⟩
    have hs3 := hbel3.size
    have hbel13 : Below w.heap.size w w3 := hbel12.trans (hbel3.mono (by omega))
    go_wp2_with fail
    refine (clone_any a2 z2.length c2 z2 w.heap.size w3 (by omega) (by omega) (hb2.out.below hbel13)).mono ?_
    rintro e w4 ⟨v4, rfl, hown4, hbel4, hblk4⟩
    obtain ⟨aB, cB, rfl, hB, hcB, _, hmB, hnB, hoB⟩ := bytes_of_owns hown4
    have hs4 := hbel4.size
    have hbel14 : Below w.heap.size w w4 := hbel13.trans (hbel4.mono (by omega))
    have hown34 : w4.ownsRow w.heap.size 5 1 v3 z0.length (Lib.byteCells z0) := hown3.kept (row := none) ⟨hbel4.os, hbel4.tape, hbel4.output, hbel4.size, fun i hi _ => hbel4.block i hi⟩ (by cases v3.ownBlock <;> simp)
    have hne : ∀ ad, aB = some ad → v3.ownBlock ≠ some ad.block := by
      intro ad hA e
      have h1 := owns_lt hown3 _ e
      have h2 := (hoB ad hA).1
      rcases hblk4 with h3 | h3
      · rw [h3] at h2; cases h2
      · rw [h3] at h2; have := Option.some.inj h2; omega
    go_wp2_with fail
    refine (shim_any w.heap.size z0.length num v3 (Lib.byteCells z0) aB z2.length cB z2 w4 hown34 (by omega) (by omega) (by omega) hB hnB hne).mono ?_
    rintro e w5 ⟨v5, rfl, hown5, hadd5⟩
    obtain ⟨fl1, fl2, fl3⟩ := field_len num z2 (by omega)
    generalize hF : field num z2 = F at hown5 fl1
    have HF : Hid (field num z2 = F) := hF
    clear hF
    have hFs : F.length ≤ 600000 := by omega
    have hFz : z2.length ≤ F.length := by omega
    have hF2 : z2.length + 2 ≤ F.length := by have := Lib.uvarint_pos (keyOf num); have := Lib.uvarint_pos z2.length; omega
    have hfa : F.length ≤ (Lib.uvarint (keyOf num)).length + (Lib.uvarint z2.length).length + z2.length := by omega
    have hfb : (Lib.uvarint (keyOf num)).length + (Lib.uvarint z2.length).length + z2.length ≤ F.length := by omega
    clear fl1
    rw [← Lib.byteCells_append] at hown5
    obtain ⟨aO, cO, rfl, hO, hcO, _, hmO, _, _⟩ := bytes_of_owns hown5
    have hs5 := hadd5.1.size
    have hv3 : ∀ g, v3.ownBlock = some g → w2.heap.size ≤ g := by
      intro g hg
      rcases hblk3 with h3 | h3
      · rw [h3] at hg; cases hg
      · rw [h3] at hg; have := Option.some.inj hg; omega
    have hB5 : Bytes w5 aB z2.length z2 := hB.added hadd5 hne
    have kM5 : Below w1.heap.size w1 w5 := ((hbel2.trans (hbel3.mono hs2)).trans (hbel4.mono (by omega))).trans (hadd5.below (by omega) (fun g hg => by have := hv3 g hg; omega))
    have kW5 : Below w2.heap.size w2 w5 := (hbel3.trans (hbel4.mono (by omega))).trans (hadd5.below (by omega) hv3)
    have k15 : Below w.heap.size w w5 := hbel14.trans (hadd5.below (by omega) (fun g hg => (owns_lt hown34 g hg).1))
    clear hown1 hown2 hown3 hown4 hown34 hown5 hbel1 hbel2 hbel3 hbel4 hbel12 hbel13 hbel14 hblk3 hblk4 hadd5 hv3 hB hne hoB
    go_wp2_with fail
    refine (shim_any w.heap.size 0 num (.slice none 0 0) [] aB z2.length cB z2 w5 (World.ownsRow_nil _ _ _ _) (by omega) (by omega) (by omega) hB5 hnB (fun _ _ => by simp [Value.ownBlock])).mono ?_
    rintro e w6 ⟨v6, rfl, hown6, hadd6⟩
    rw [HF.out, Nat.zero_add, List.nil_append] at hown6
    obtain ⟨aZ, cZ, rfl, hZ, hcZ, _, hmZ, _, _⟩ := bytes_of_owns hown6
    have hs6 := hadd6.1.size
    have h56 : Below w5.heap.size w5 w6 := hadd6.below (Nat.le_refl _) (fun g hg => by cases hg)
    have hO6 : Hid (Bytes w6 aO (z0.length + F.length) (z0 ++ F)) := hO.below h56
    have hM6 : Hid (Bytes w6 aM z0.length z0) := hM.below (kM5.trans (h56.mono kM5.size |>.mono (by have := kM5.size; omega)))
    have hW6 : Hid (Bytes w6 aW z2.length z2) := hW.below (kW5.trans (h56.mono (by have := kW5.size; omega)))
    have hZ6 : Hid (Bytes w6 aZ F.length F) := hZ
    have k16 : Hid (Below w.heap.size w w6) := k15.trans (h56.mono (by have := k15.size; omega))
    clear hO hM hW hZ h56 kM5 kW5 k15 hB5 hown6 hadd6
    unfold maxLen at hmM hmW hmB hmO hmZ
    go_wp2_with fail
    refine (prefix_yes aO (z0.length + F.length) cO aM z0.length cM z0 F _ (by omega) hcO hO6 hM6).mono ?_
    rintro e w7 ⟨rfl, q1, rfl⟩
    have hcl : z0.length < cO := by omega
    go_wp2_with fail
    refine (equal_yes (aO.map (·.add z0.length)) F.length (cO - z0.length) aZ cZ F _ (by omega) (hO6.out.tail.drewN q1) (hZ6.out.drewN q1)).mono ?_
    rintro e w7 ⟨rfl, q2, rfl⟩
    go_wp2_with fail
    rw [key_mask num hnum]
    refine (len_any (keyOf num) _ (keyOf_lt num)).mono ?_
    rintro e w7 ⟨rfl, hw⟩
    subst w7
    go_wp2_with fail
    refine (len_any z2.length _ (by omega)).mono ?_
    rintro e w7 ⟨rfl, hw⟩
    subst w7
    go_wp2_with fail
    all_goals rw [show F.length - (F.length - z2.length) = z2.length from by omega]
    · have z20 : z2 = [] := List.eq_nil_of_length_eq_zero (by omega)
      refine (equal_yes aZ z2.length 0 aW cW z2 _ (by omega) (by rw [z20]; exact Bytes.empty _ _) (hW6.out.drewN _)).mono ?_
      rintro e w7 ⟨rfl, q3, rfl⟩
      go_wp2_with fail
      go_ret
      exact ⟨rfl, below_drewN k16.out _⟩
    · have hsplit : ∃ pre : List UInt8, F = pre ++ z2 ∧ pre.length = F.length - z2.length := by
        refine ⟨Lib.uvarint (keyOf num) ++ Lib.uvarint z2.length, ?_, ?_⟩
        · rw [← HF.out, field, List.append_assoc]
        · rw [List.length_append]; omega
      obtain ⟨pre, hp1, hp2⟩ := hsplit
      refine (equal_yes (aZ.map (·.add (F.length - z2.length))) z2.length (cZ - (F.length - z2.length)) aW cW z2 _ (by omega) (by
        have h := hZ6.out
        rw [hp1] at h
        have := h.tail
        rw [← hp2]
        exact this.drewN _) (hW6.out.drewN _)).mono ?_
      clear hp1 hp2
      rintro e w7 ⟨rfl, q3, rfl⟩
      go_wp2_with fail
      go_ret
      exact ⟨rfl, below_drewN k16.out _⟩

end Go.Proofs.Qxb6617351a

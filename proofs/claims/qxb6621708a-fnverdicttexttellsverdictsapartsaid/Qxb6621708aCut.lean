/-
  THE FIRST LAW's WALK: FnVerdictTextJoinAtAnyCut.
-/
import Derived.Test.Qxb6621708aPlain
namespace Go.Proofs.Qxb6621708a
open Go.RowKit

theorem tot_append (x y : List ByteArray) : tot (x ++ y) = tot x + tot y := by simp [tot]

/-- One text made: the reasons laid, the text written. -/
theorem below_two {w w1 w2 : World} (h1 : Below w.heap.size w w1) (h2 : Below w1.heap.size w1 w2) : Below w.heap.size w w2 := h1.trans (h2.mono h1.size)

set_option maxRecDepth 100000 in
set_option maxHeartbeats 1000000 in
theorem cut_walk (hJ : JoinSays) (id o : ByteArray) (a : Option Addr) (la ca : Nat) (sa : List ByteArray) (b : Option Addr) (lb cb : Nat) (sb : List ByteArray) (w : World)
    (hid : id.size ≤ 9223372036854775807) (ho : o.size ≤ 9223372036854775807) (hla : la ≤ 9223372036854775807) (hlb : lb ≤ 9223372036854775807)
    (ha : Hid (Strs w a la sa)) (hb : Hid (Strs w b lb sb)) (hxa : Hid (∀ x ∈ sa, x.size ≤ 9223372036854775807)) (hxb : Hid (∀ x ∈ sb, x.size ≤ 9223372036854775807)) :
    Calls Try.prog 3 #[.string id, .string o, .slice a la ca, .slice b lb cb] w fun e w' => e = .returned (.bool true) ∧ Below w.heap.size w w' := by
  go_enter Try.func3, Try.ntmps3
  go_wp2_with fail
  refine (bytes5 id o a la ca sa b lb cb sb w hid ho hla hlb ha hb hxa hxb).mono ?_
  rintro e w1 ⟨c, rfl, hw, hfit⟩
  subst w1
  cases c with
  | false =>
    clear hfit
    go_wp2_with fail
    go_ret
    exact ⟨rfl, Below.refl _ _⟩
  | true =>
    have hT := hfit rfl
    clear hfit hid ho hla hlb
    have z1 : id.size + o.size ≤ 1048576 := by omega
    have z2 : la ≤ 1048576 := by omega
    have z3 : lb ≤ 1048576 := by omega
    have z4 : tot sa ≤ 1048576 := by omega
    have z5 : tot sb ≤ 1048576 := by omega
    go_wp2_with fail
    refine (count_any _ a la ca sa _ (by omega) (by omega) ha.out z4 z2).mono ?_
    rintro e w1 ⟨m, rfl, hm0, hm1, hw⟩
    subst w1
    by_cases hm : 1048576 < m
    · go_wp2_with fail
      go_ret
      exact ⟨rfl, Below.refl _ _⟩
    have hm' : m ≤ 1048576 := by omega
    clear hm
    go_wp2_with fail
    refine (count_any _ b lb cb sb _ (by omega) (by omega) hb.out z5 z3).mono ?_
    rintro e w1 ⟨m2, rfl, hm20, hm21, hw⟩
    subst w1
    by_cases hm2 : 1048576 < m2
    · go_wp2_with fail
      go_ret
      exact ⟨rfl, Below.refl _ _⟩
    have hm2' : m2 ≤ 1048576 := by omega
    clear hm2
    go_wp2_with fail
    have la1 := ha.out.1
    have lb1 := hb.out.1
    have LA : Hid (sa.length = la) := la1
    have LB : Hid (sb.length = lb) := lb1
    clear la1 lb1
    refine (reasons_any a la ca sa b lb cb sb _ z2 z3 ha hb).mono ?_
    rintro e w1 ⟨r1, n1, c1, rfl, hs1, hb1⟩
    have hn1 : n1 ≤ 4194304 := by have := hs1.1; rw [List.length_append, LA.out, LB.out] at this; omega
    go_wp2_with fail
    refine (text_any hJ id o r1 n1 c1 (sa ++ sb) _ hn1 (by omega) (by rw [tot_append]; omega) hs1).mono ?_
    rintro e w2 ⟨rfl, hb2⟩
    have hw2 := below_two hb1 hb2
    clear hb1 hb2 hs1 hn1
    generalize ht1 : textB o (sa ++ sb) = T1
    have HT1 : Hid (textB o (sa ++ sb) = T1) := ht1
    clear ht1
    go_wp2_with fail
    refine (reasons_any a la ca sa none 0 0 [] _ z2 (by omega) (ha.out.below hw2) (Strs.empty _ _)).mono ?_
    rintro e w3 ⟨r2, n2, c2, rfl, hs2, hb3⟩
    have hn2 : n2 ≤ 4194304 := by have := hs2.1; rw [List.length_append, LA.out] at this; simp at this; omega
    go_wp2_with fail
    refine (text_any hJ _ o r2 n2 c2 (sa ++ []) _ hn2 (by omega) (by rw [List.append_nil]; omega) hs2).mono ?_
    rintro e w4 ⟨rfl, hb4⟩
    have hw4 := hw2.trans ((below_two hb3 hb4).mono hw2.size)
    clear hb3 hb4 hs2 hn2 hw2
    generalize ht2 : textB o (sa ++ []) = T2
    have HT2 : Hid (textB o (sa ++ []) = T2) := ht2
    clear ht2
    go_wp2_with fail
    refine (reasons_any none 0 0 [] b lb cb sb _ (by omega) z3 (Strs.empty _ _) (hb.out.below hw4)).mono ?_
    rintro e w5 ⟨r3, n3, c3, rfl, hs3, hb5⟩
    have hn3 : n3 ≤ 4194304 := by have := hs3.1; rw [List.length_append, LB.out] at this; simp at this; omega
    go_wp2_with fail
    refine (text_any hJ id o r3 n3 c3 ([] ++ sb) _ hn3 (by omega) (by rw [List.nil_append]; omega) hs3).mono ?_
    rintro e w6 ⟨rfl, hb6⟩
    have hw6 := hw4.trans ((below_two hb5 hb6).mono hw4.size)
    clear hb5 hb6 hs3 hn3 hw4
    generalize ht3 : textB o ([] ++ sb) = T3
    have HT3 : Hid (textB o ([] ++ sb) = T3) := ht3
    clear ht3
    have HW : Hid (Below w.heap.size w w6) := hw6
    clear hw6
    by_cases hab : la = 0 ∧ lb = 0
    · obtain ⟨rfl, rfl⟩ := hab
      have ea : sa = [] := List.eq_nil_of_length_eq_zero LA.out
      have eb : sb = [] := List.eq_nil_of_length_eq_zero LB.out
      subst ea eb
      obtain rfl : T1 = o := by rw [← HT1.out]; exact textB_nil o
      obtain rfl : T2 = T1 := by rw [← HT2.out]; exact textB_nil T1
      obtain rfl : T3 = T2 := by rw [← HT3.out]; exact textB_nil T2
      go_wp2_with fail
      go_ret
      exact ⟨rfl, HW.out⟩
    have hne : sa ++ sb ≠ [] := by
      intro e
      have := congrArg List.length e
      rw [List.length_append, LA.out, LB.out] at this
      simp at this
      omega
    have hcnt : ((la : Int) + (lb : Int) == 0) = false := beq_eq_false_iff_ne.2 (by omega)
    have hsz := textB_size o _ hne
    rw [HT1.out, List.length_append, LA.out, LB.out, tot_append] at hsz
    have hs1 : T1.size ≤ o.size + (la + lb) + (tot sa + tot sb) := by omega
    have hs2 : o.size + (la + lb) + (tot sa + tot sb) ≤ T1.size := by omega
    clear hsz
    have HNE : Hid (sa ++ sb ≠ []) := hne
    clear hne
    go_wp2_with fail
    go_loop [15, 16] (fun v i => ∃ k : Nat, k ≤ la ∧ i = .int .i64 k ∧ v = .int .i64 ((o.size + (la + lb) + tot (sa.take k) : Nat) : Int) ∧ tot (sa.take k) ≤ tot sa) (fun _ i => la - (intOf i).toNat)
    case atStart => exact ⟨0, Nat.zero_le _, rfl, by simp [tot_nil], by simp [tot_nil]⟩
    case round =>
      obtain ⟨k, hk, rfl, rfl, hm⟩ := hrel
      by_cases hlt : k < la
      · obtain ⟨ba, oa, x, rfl, hlt2, hcell0, _, _, hxt, hsucc⟩ := ha.out.at hlt
        have hcell : w6.cell? ⟨ba, oa + k, none⟩ = some (.string x) := by rw [HW.out.cell (by exact hlt2)]; exact hcell0
        have hle := tot_take_le sa (k + 1)
        have HS : Hid (tot (sa.take (k + 1)) = tot (sa.take k) + x.size) := hsucc
        have hle2 : tot (sa.take k) + x.size ≤ tot sa := by omega
        clear hcell0 hsucc hle
        go_wp2_with fail
        go_round
        case rel => exact ⟨k + 1, by omega, by go_num, by rw [HS.out]; go_num, by rw [HS.out]; omega⟩
        case measure => simp [intOf]; omega
      · obtain rfl : k = la := by omega
        rw [ha.out.all] at hm ⊢
        go_wp2_with fail
        go_loop [15, 17] (fun v i => ∃ j : Nat, j ≤ lb ∧ i = .int .i64 j ∧ v = .int .i64 ((o.size + (k + lb) + tot sa + tot (sb.take j) : Nat) : Int) ∧ tot (sb.take j) ≤ tot sb) (fun _ i => lb - (intOf i).toNat)
        case atStart => exact ⟨0, Nat.zero_le _, rfl, by simp [tot_nil], by simp [tot_nil]⟩
        case round =>
          obtain ⟨j, hj, rfl, rfl, hm3⟩ := hrel
          by_cases hlt3 : j < lb
          · obtain ⟨bb, ob, x, rfl, hlt2, hcell0, _, _, hxt, hsucc⟩ := hb.out.at hlt3
            have hcell : w6.cell? ⟨bb, ob + j, none⟩ = some (.string x) := by rw [HW.out.cell (by exact hlt2)]; exact hcell0
            have hle := tot_take_le sb (j + 1)
            have HS : Hid (tot (sb.take (j + 1)) = tot (sb.take j) + x.size) := hsucc
            have hle2 : tot (sb.take j) + x.size ≤ tot sb := by omega
            clear hcell0 hsucc hle
            go_wp2_with fail
            go_round
            case rel => exact ⟨j + 1, by omega, by go_num, by rw [HS.out]; go_num, by rw [HS.out]; omega⟩
            case measure => simp [intOf]; omega
          · obtain rfl : j = lb := by omega
            rw [hb.out.all] at hm3 ⊢
            go_wp2_with fail
            have hpre : ∃ r, T1.data.toList = o.data.toList ++ r := ⟨_, HT1.out ▸ textB_data o _ HNE.out⟩
            obtain ⟨hol, hsp⟩ : ∃ h : o.size < T1.size, T1[o.size] = 32 := HT1.out ▸ textB_space o _ HNE.out
            refine (starts_yes T1 o _ (by omega) (by omega) (prefix_get _ _ _ hpre.choose_spec)).mono ?_
            clear hpre
            rintro e w7 ⟨rfl, q1, rfl⟩
            have hsp2 : ((T1[o.size]'hol).toNat : Int) = 32 := by rw [hsp]; rfl
            have i1 : (o.size : Int) < (T1.size : Int) := by omega
            clear hsp
            rcases Nat.eq_zero_or_pos j with h0 | h0
            · -- b holds nothing
              subst h0
              have eb : sb = [] := List.eq_nil_of_length_eq_zero LB.out
              subst eb
              obtain ⟨k', rfl⟩ : ∃ k', k = k' + 1 := ⟨k - 1, by omega⟩
              have t3 : T3 = o := by rw [← HT3.out]; exact textB_nil o
              subst t3
              have t2 : T2 = T1 := HT2.out.symm.trans HT1.out
              subst t2
              obtain ⟨ba, oa, x, rfl, hlt2, hcell0, hgx, _, hxt, _⟩ := ha.out.at (Nat.lt_succ_self k')
              have hcell : w6.cell? ⟨ba, oa + k', none⟩ = some (.string x) := by rw [HW.out.cell (by exact hlt2)]; exact hcell0
              have hlast : (sa ++ []).getLast? = some x := by
                rw [List.append_nil, List.getLast?_eq_getElem?, LA.out]; exact hgx
              have hsuf : ∃ q, T2.data.toList = q ++ x.data.toList := HT1.out ▸ textB_last T3 _ x hlast
              have hk0 : (((k' + 1 : Nat) : Int) == 0) = false := beq_eq_false_iff_ne.2 (by omega)
              clear hcell0 hgx hlast
              go_wp2_with fail
              refine (ends_yes T2 x _ (by omega) (by omega) (suffix_get _ _ _ hsuf.choose_spec)).mono ?_
              clear hsuf
              rintro e w7 ⟨rfl, q2, rfl⟩
              go_wp2_with fail
              go_ret
              exact ⟨rfl, below_drewN HW.out _⟩
            · obtain ⟨j', rfl⟩ : ∃ j', j = j' + 1 := ⟨j - 1, by omega⟩
              obtain ⟨bb, ob, x, rfl, hlt2, hcell0, hgx, _, hxt, _⟩ := hb.out.at (Nat.lt_succ_self j')
              have hcell : w6.cell? ⟨bb, ob + j', none⟩ = some (.string x) := by rw [HW.out.cell (by exact hlt2)]; exact hcell0
              have hlast : (sa ++ sb).getLast? = some x := by
                rw [List.getLast?_eq_getElem?, List.length_append, LA.out, LB.out, List.getElem?_append_right (by rw [LA.out]; omega), LA.out, ← hgx]
                congr 1
                omega
              have hsuf : ∃ q, T1.data.toList = q ++ x.data.toList := HT1.out ▸ textB_last o _ x hlast
              have hj0 : (((j' + 1 : Nat) : Int) == 0) = false := beq_eq_false_iff_ne.2 (by omega)
              clear hcell0 hgx hlast
              rcases Nat.eq_zero_or_pos k with h1 | h1
              · -- a holds nothing
                subst h1
                have ea : sa = [] := List.eq_nil_of_length_eq_zero LA.out
                subst ea
                have t2 : T2 = o := by rw [← HT2.out]; exact textB_nil o
                subst t2
                have t1 : T3 = T1 := HT3.out.symm.trans HT1.out
                subst t1
                go_wp2_with fail
                refine (ends_yes T3 x _ (by omega) (by omega) (suffix_get _ _ _ hsuf.choose_spec)).mono ?_
                clear hsuf
                rintro e w7 ⟨rfl, q2, rfl⟩
                go_wp2_with fail
                go_ret
                exact ⟨rfl, below_drewN HW.out _⟩
              · have hk0 : ((k : Int) == 0) = false := beq_eq_false_iff_ne.2 (by omega)
                have na : sa ≠ [] := by intro e; have := LA.out; rw [e] at this; simp at this; omega
                have nb : sb ≠ [] := by intro e; have := LB.out; rw [e] at this; simp at this
                have hs3 := textB_size o sb nb
                rw [show textB o sb = T3 from HT3.out, LB.out] at hs3
                have u1 : T3.size ≤ o.size + (j' + 1) + tot sb := by omega
                have u2 : o.size + (j' + 1) + tot sb ≤ T3.size := by omega
                have u3 : T2.size ≤ o.size + k + tot sa := by
                  have := textB_size_le o (sa ++ [])
                  rw [HT2.out, List.append_nil, LA.out] at this; exact this
                have HF : Hid (T1 = T2 ++ ⟨#[44]⟩ ++ T3.extract (o.size + 1) T3.size) := by
                  have := textB_cut o sa sb na nb
                  rw [HT1.out, show textB o sb = T3 from HT3.out, show textB o sa = T2 from by rw [← HT2.out, List.append_nil]] at this
                  exact this
                have hpre3 : ∃ r, T3.data.toList = o.data.toList ++ r := ⟨_, HT3.out ▸ textB_data o sb nb⟩
                obtain ⟨hol3, hsp3⟩ : ∃ h : o.size < T3.size, T3[o.size] = 32 := HT3.out ▸ textB_space o sb nb
                have hsp4 : ((T3[o.size]'hol3).toNat : Int) = 32 := by rw [hsp3]; rfl
                have i3 : (o.size : Int) < (T3.size : Int) := by omega
                clear na nb hs3 hsp3
                go_wp2_with fail
                refine (ends_yes T1 x _ (by omega) (by omega) (suffix_get _ _ _ hsuf.choose_spec)).mono ?_
                clear hsuf
                rintro e w7 ⟨rfl, q2, rfl⟩
                go_wp2_with fail
                refine (starts_yes T3 o _ (by omega) (by omega) (prefix_get _ _ _ hpre3.choose_spec)).mono ?_
                clear hpre3
                rintro e w7 ⟨rfl, q3, rfl⟩
                go_wp2_with fail
                have hret : (T1.toList == (T2 ++ ⟨#[44]⟩ ++ T3.extract (o.size + 1) T3.size).toList) = true := by rw [← HF.out]; simp
                go_ret
                exact ⟨congrArg (fun x => Ending.returned (Value.bool x)) hret, below_drewN HW.out _⟩

end Go.Proofs.Qxb6621708a

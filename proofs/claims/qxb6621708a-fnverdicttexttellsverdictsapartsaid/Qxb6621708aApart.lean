/-
  THE SECOND LAW: FnVerdictTextTellsVerdictsApart: the plain law (the text tells outcome and reasons), then the walk.
-/
import Derived.Test.Qxb6621708aCut
namespace Go.Proofs.Qxb6621708a
open Go.RowKit

/-- Two words without c, each followed by nothing or by c: read apart at the first c. -/
theorem split_first (c : UInt8) (x y t1 t2 : List UInt8) (hx : c ∉ x) (hy : c ∉ y) (h1 : t1 = [] ∨ ∃ r, t1 = c :: r) (h2 : t2 = [] ∨ ∃ r, t2 = c :: r) (h : x ++ t1 = y ++ t2) : x = y ∧ t1 = t2 := by
  induction x generalizing y with
  | nil =>
    cases y with
    | nil => exact ⟨rfl, by simpa using h⟩
    | cons b y =>
      rcases h1 with rfl | ⟨r, rfl⟩
      · simp at h
      · simp at h; simp [h.1] at hy
  | cons a x ih =>
    cases y with
    | nil =>
      rcases h2 with rfl | ⟨r, rfl⟩
      · simp at h
      · simp at h; simp [h.1] at hx
    | cons b y =>
      simp only [List.cons_append, List.cons.injEq] at h
      simp only [List.mem_cons, not_or] at hx hy
      obtain ⟨h3, h4⟩ := ih y hx.2 hy.2 h.2
      exact ⟨by rw [h.1, h3], h4⟩

theorem joinTail_head (r : List (List UInt8)) : Lib.joinTail [44] r = [] ∨ ∃ t, Lib.joinTail [44] r = 44 :: t := by
  cases r with
  | nil => exact .inl rfl
  | cons y r => exact .inr ⟨_, by rw [joinTail_cons]; rfl⟩

theorem joinTail_inj (r s : List (List UInt8)) (hr : ∀ x ∈ r, (44 : UInt8) ∉ x) (hs : ∀ x ∈ s, (44 : UInt8) ∉ x) (h : Lib.joinTail [44] r = Lib.joinTail [44] s) : r = s := by
  induction r generalizing s with
  | nil =>
    cases s with
    | nil => rfl
    | cons y s => rw [joinTail_cons] at h; simp [Lib.joinTail] at h
  | cons x r ih =>
    cases s with
    | nil => rw [joinTail_cons] at h; simp [Lib.joinTail] at h
    | cons y s =>
      rw [joinTail_cons, joinTail_cons, Lib.join_cons, Lib.join_cons, List.append_cancel_left_eq] at h
      obtain ⟨h1, h2⟩ := split_first 44 x y _ _ (hr x (by simp)) (hs y (by simp)) (joinTail_head r) (joinTail_head s) h
      rw [h1, ih s (fun z hz => hr z (by simp [hz])) (fun z hz => hs z (by simp [hz])) h2]

theorem join_inj (r s : List (List UInt8)) (hr : ∀ x ∈ r, (44 : UInt8) ∉ x) (hs : ∀ x ∈ s, (44 : UInt8) ∉ x) (h1 : r ≠ []) (h2 : s ≠ []) (h : Lib.join r [44] = Lib.join s [44]) : r = s := by
  match r, s, h1, h2 with
  | x :: r, y :: s, _, _ =>
    apply joinTail_inj _ _ hr hs
    rw [joinTail_cons, joinTail_cons, h]

theorem txt_inj (o1 o2 : List UInt8) (r s : List (List UInt8)) (ho1 : (32 : UInt8) ∉ o1) (ho2 : (32 : UInt8) ∉ o2) (hr : ∀ x ∈ r, (44 : UInt8) ∉ x) (hs : ∀ x ∈ s, (44 : UInt8) ∉ x) (h : txt o1 r = txt o2 s) : o1 = o2 ∧ r = s := by
  have form : ∀ (o : List UInt8) (q : List (List UInt8)), txt o q = o ++ (if q = [] then [] else 32 :: Lib.join q [44]) := by
    intro o q
    unfold txt
    by_cases hq : q = []
    · simp [hq]
    · simp [hq]
  have tail : ∀ q : List (List UInt8), (if q = [] then ([] : List UInt8) else 32 :: Lib.join q [44]) = [] ∨ ∃ t, (if q = [] then ([] : List UInt8) else 32 :: Lib.join q [44]) = 32 :: t := by
    intro q
    by_cases hq : q = []
    · simp [hq]
    · simp [hq]
  rw [form, form] at h
  obtain ⟨h1, h2⟩ := split_first 32 o1 o2 _ _ ho1 ho2 (tail r) (tail s) h
  refine ⟨h1, ?_⟩
  by_cases q1 : r = []
  · by_cases q2 : s = []
    · rw [q1, q2]
    · rw [if_pos q1, if_neg q2] at h2; cases h2
  · by_cases q2 : s = []
    · rw [if_neg q1, if_pos q2] at h2; cases h2
    · rw [if_neg q1, if_neg q2] at h2
      exact join_inj r s hr hs q1 q2 (List.cons.inj h2).2

theorem hasB_no {s : ByteArray} {c : UInt8} (h : hasB s c = false) : c ∉ s.data.toList := by
  intro hm
  rw [hasB, ← List.contains_iff_mem] at *
  rw [hm] at h; cases h

theorem data_inj {x y : ByteArray} (h : x.data.toList = y.data.toList) : x = y := ByteArray.ext (Array.toList_inj.1 h)

theorem map_data_inj (r s : List ByteArray) (h : r.map (·.data.toList) = s.map (·.data.toList)) : r = s := by
  induction r generalizing s with
  | nil => cases s with
    | nil => rfl
    | cons y s => simp at h
  | cons x r ih => cases s with
    | nil => simp at h
    | cons y s =>
      simp only [List.map_cons, List.cons.injEq] at h
      rw [data_inj h.1, ih s h.2]

/-- THE LAW: the text tells its outcome and its reasons. -/
theorem textB_inj (o1 o2 : ByteArray) (r s : List ByteArray) (h1 : hasB o1 32 = false) (h2 : hasB o2 32 = false) (hr : ∀ x ∈ r, hasB x 44 = false) (hs : ∀ x ∈ s, hasB x 44 = false) (h : textB o1 r = textB o2 s) : o1 = o2 ∧ r = s := by
  have hd : txt o1.data.toList (r.map (·.data.toList)) = txt o2.data.toList (s.map (·.data.toList)) := by
    have := congrArg (fun x : ByteArray => x.data.toList) h
    simpa [textB] using this
  obtain ⟨e1, e2⟩ := txt_inj _ _ _ _ (hasB_no h1) (hasB_no h2) (fun x hx => by
      obtain ⟨y, hy, rfl⟩ := List.mem_map.1 hx
      exact hasB_no (hr y hy)) (fun x hx => by
      obtain ⟨y, hy, rfl⟩ := List.mem_map.1 hx
      exact hasB_no (hs y hy)) hd
  exact ⟨data_inj e1, map_data_inj _ _ e2⟩

/-- No reason of the first k holds a comma. -/
def NoComma (ss : List ByteArray) (k : Nat) : Prop := ∀ x ∈ ss.take k, hasB x 44 = false

theorem NoComma.succ {ss : List ByteArray} {k : Nat} (h : NoComma ss k) {x : ByteArray} (hx : ss[k]? = some x) (hn : hasB x 44 = false) : NoComma ss (k + 1) := by
  intro y hy
  rw [List.take_add_one, hx] at hy
  simp only [Option.toList, List.mem_append, List.mem_singleton] at hy
  rcases hy with hy | rfl
  · exact h y hy
  · exact hn

theorem has_lit (s : ByteArray) (c : UInt8) (n : Int) (hn : n = c.toNat) (w : World) (hs : s.size ≤ 4194304) :
    Calls Try.prog 12 #[.string s, .int .u8 n] w fun e w' => e = .returned (.bool (hasB s c)) ∧ w' = w := by
  subst hn; exact has_any s c w hs

set_option maxRecDepth 100000 in
set_option maxHeartbeats 1000000 in
theorem apart_walk (hJ : JoinSays) (i1 o1 : ByteArray) (a : Option Addr) (la ca : Nat) (sa : List ByteArray) (i2 o2 : ByteArray) (b : Option Addr) (lb cb : Nat) (sb : List ByteArray) (w : World)
    (hi1 : i1.size ≤ 9223372036854775807) (ho1 : o1.size ≤ 9223372036854775807) (hi2 : i2.size ≤ 9223372036854775807) (ho2 : o2.size ≤ 9223372036854775807) (hla : la ≤ 9223372036854775807) (hlb : lb ≤ 9223372036854775807)
    (ha : Hid (Strs w a la sa)) (hb : Hid (Strs w b lb sb)) (hxa : Hid (∀ x ∈ sa, x.size ≤ 9223372036854775807)) (hxb : Hid (∀ x ∈ sb, x.size ≤ 9223372036854775807)) :
    Calls Try.prog 4 #[.string i1, .string o1, .slice a la ca, .string i2, .string o2, .slice b lb cb] w fun e w' => e = .returned (.bool true) ∧ Below w.heap.size w w' := by
  go_enter Try.func4, Try.ntmps4
  go_wp2_with fail
  refine (bytes11 i1 o1 a la ca sa i2 o2 b lb cb sb w hi1 ho1 hi2 ho2 hla hlb ha hb hxa hxb).mono ?_
  rintro e w1 ⟨c, rfl, hw, hfit⟩
  subst w1
  cases c with
  | false =>
    clear hfit
    go_wp2_with fail
    go_ret
    exact ⟨rfl, Below.refl _ _⟩
  | true =>
    have hT := hfit rfl
    clear hfit hi1 ho1 hi2 ho2 hla hlb
    have z1 : i1.size + o1.size + i2.size + o2.size ≤ 1048576 := by omega
    have z2 : la ≤ 1048576 := by omega
    have z3 : lb ≤ 1048576 := by omega
    have z4 : tot sa ≤ 1048576 := by omega
    have z5 : tot sb ≤ 1048576 := by omega
    go_wp2_with fail
    refine (count_any _ a la ca sa _ (by omega) (by omega) ha.out z4 z2).mono ?_
    rintro e w1 ⟨m, rfl, hm0, hm1, hw⟩
    subst w1
    by_cases hm : 1048576 < m
    · go_wp2_with fail
      go_ret
      exact ⟨rfl, Below.refl _ _⟩
    have hm' : m ≤ 1048576 := by omega
    clear hm
    go_wp2_with fail
    refine (count_any _ b lb cb sb _ (by omega) (by omega) hb.out z5 z3).mono ?_
    rintro e w1 ⟨m2, rfl, hm20, hm21, hw⟩
    subst w1
    by_cases hm2 : 1048576 < m2
    · go_wp2_with fail
      go_ret
      exact ⟨rfl, Below.refl _ _⟩
    have hm2' : m2 ≤ 1048576 := by omega
    clear hm2
    have la1 := ha.out.1
    have lb1 := hb.out.1
    have LA : Hid (sa.length = la) := la1
    have LB : Hid (sb.length = lb) := lb1
    clear la1 lb1
    go_wp2_with fail
    refine (has_lit o1 32 _ rfl _ (by omega)).mono ?_
    rintro e w1 ⟨rfl, hw⟩
    subst w1
    cases hs1 : hasB o1 32 with
    | true =>
      go_wp2_with fail
      go_ret
      exact ⟨rfl, Below.refl _ _⟩
    | false =>
    have HS1 : Hid (hasB o1 32 = false) := hs1
    clear hs1
    go_wp2_with fail
    refine (has_lit o2 32 _ rfl _ (by omega)).mono ?_
    rintro e w1 ⟨rfl, hw⟩
    subst w1
    cases hs2 : hasB o2 32 with
    | true =>
      go_wp2_with fail
      go_ret
      exact ⟨rfl, Below.refl _ _⟩
    | false =>
    have HS2 : Hid (hasB o2 32 = false) := hs2
    clear hs2
    go_wp2_with fail
    go_loop [14] (fun i => ∃ k : Nat, k ≤ la ∧ i = .int .i64 k ∧ NoComma sa k) (fun i => la - (intOf i).toNat)
    case atStart => exact ⟨0, Nat.zero_le _, rfl, fun x hx => by simp at hx⟩
    case round =>
      obtain ⟨k, hk, rfl, hno⟩ := hrel
      by_cases hlt : k < la
      · obtain ⟨ba, oa, x, rfl, hlt2, hcell, hgx, _, hxt, _⟩ := ha.out.at hlt
        have HX : Hid (sa[k]? = some x) := hgx
        clear hgx
        go_wp2_with fail
        refine (has_lit x 44 _ rfl _ (by omega)).mono ?_
        rintro e w1 ⟨rfl, hw⟩
        subst w1
        cases hc : hasB x 44 with
        | true =>
          go_wp2_with fail
          go_ret
          exact ⟨rfl, Below.refl _ _⟩
        | false =>
          have hno2 := hno.succ HX.out hc
          clear hc
          go_wp2_with fail
          go_round
          case rel => exact ⟨k + 1, by omega, by go_num, hno2⟩
          case measure => simp [intOf]; omega
      · obtain rfl : k = la := by omega
        have hna : Hid (∀ x ∈ sa, hasB x 44 = false) := by
          intro x hx
          exact hno x (by rw [ha.out.all]; exact hx)
        clear hno
        go_wp2_with fail
        go_loop [15] (fun i => ∃ j : Nat, j ≤ lb ∧ i = .int .i64 j ∧ NoComma sb j) (fun i => lb - (intOf i).toNat)
        case atStart => exact ⟨0, Nat.zero_le _, rfl, fun x hx => by simp at hx⟩
        case round =>
          obtain ⟨j, hj, rfl, hno⟩ := hrel
          by_cases hlt3 : j < lb
          · obtain ⟨bb, ob, x, rfl, hlt2, hcell, hgx, _, hxt, _⟩ := hb.out.at hlt3
            have HX : Hid (sb[j]? = some x) := hgx
            clear hgx
            go_wp2_with fail
            refine (has_lit x 44 _ rfl _ (by omega)).mono ?_
            rintro e w1 ⟨rfl, hw⟩
            subst w1
            cases hc : hasB x 44 with
            | true =>
              go_wp2_with fail
              go_ret
              exact ⟨rfl, Below.refl _ _⟩
            | false =>
              have hno2 := hno.succ HX.out hc
              clear hc
              go_wp2_with fail
              go_round
              case rel => exact ⟨j + 1, by omega, by go_num, hno2⟩
              case measure => simp [intOf]; omega
          · obtain rfl : j = lb := by omega
            have hnb : Hid (∀ x ∈ sb, hasB x 44 = false) := by
              intro x hx
              exact hno x (by rw [hb.out.all]; exact hx)
            clear hno
            have HI : Hid (textB o1 sa = textB o2 sb → o1 = o2 ∧ sa = sb) := textB_inj o1 o2 sa sb HS1.out HS2.out hna.out hnb.out
            clear hna hnb
            go_wp2_with fail
            refine (reasons_any a k ca sa none 0 0 [] _ z2 (by omega) ha (Strs.empty _ _)).mono ?_
            rintro e w1 ⟨r1, n1, c1, rfl, hs1, hb1⟩
            have hn1 : n1 ≤ 4194304 := by have := hs1.1; rw [List.length_append, LA.out] at this; simp at this; omega
            go_wp2_with fail
            refine (text_any hJ i1 o1 r1 n1 c1 (sa ++ []) _ hn1 (by omega) (by rw [List.append_nil]; omega) hs1).mono ?_
            rintro e w2 ⟨rfl, hb2⟩
            have hw2 := below_two hb1 hb2
            clear hb1 hb2 hs1 hn1
            rw [List.append_nil]
            generalize ht1 : textB o1 sa = T1
            have HT1 : Hid (textB o1 sa = T1) := ht1
            clear ht1
            go_wp2_with fail
            refine (reasons_any b j cb sb none 0 0 [] _ z3 (by omega) (hb.out.below hw2) (Strs.empty _ _)).mono ?_
            rintro e w3 ⟨r2, n2, c2, rfl, hs2, hb3⟩
            have hn2 : n2 ≤ 4194304 := by have := hs2.1; rw [List.length_append, LB.out] at this; simp at this; omega
            go_wp2_with fail
            refine (text_any hJ i2 o2 r2 n2 c2 (sb ++ []) _ hn2 (by omega) (by rw [List.append_nil]; omega) hs2).mono ?_
            rintro e w4 ⟨rfl, hb4⟩
            have hw4 := hw2.trans ((below_two hb3 hb4).mono hw2.size)
            clear hb3 hb4 hs2 hn2 hw2
            rw [List.append_nil]
            generalize ht2 : textB o2 sb = T2
            have HT2 : Hid (textB o2 sb = T2) := ht2
            clear ht2
            have HW : Hid (Below w.heap.size w w4) := hw4
            clear hw4
            rw [HT1.out, HT2.out] at HI
            by_cases hoo : o1 = o2
            · subst hoo
              by_cases hss : sa = sb
              · subst hss
                have hTT : T1 = T2 := HT1.out.symm.trans HT2.out
                subst hTT
                have hsame : sameB sa sa = true := by simp [sameB]
                go_wp2_with fail
                refine (same_any a k ca sa b j cb sa _ z2 z3 (ha.out.below HW.out) (hb.out.below HW.out)).mono ?_
                rintro e w5 ⟨rfl, q, rfl⟩
                go_wp2_with fail
                go_ret
                exact ⟨rfl, below_drewN HW.out _⟩
              · have hTT : (T1.toList == T2.toList) = false := toList_ne (fun e => hss (HI.out e).2)
                have hsame : sameB sa sb = false := by simp [sameB, hss]
                clear hss
                go_wp2_with fail
                refine (same_any a k ca sa b j cb sb _ z2 z3 (ha.out.below HW.out) (hb.out.below HW.out)).mono ?_
                rintro e w5 ⟨rfl, q, rfl⟩
                go_wp2_with fail
                go_ret
                exact ⟨rfl, below_drewN HW.out _⟩
            · have hTT : (T1.toList == T2.toList) = false := toList_ne (fun e => hoo (HI.out e).1)
              have hoo2 : (o1.toList == o2.toList) = false := toList_ne hoo
              clear hoo
              go_wp2_with fail
              go_ret
              exact ⟨rfl, HW.out⟩

end Go.Proofs.Qxb6621708a

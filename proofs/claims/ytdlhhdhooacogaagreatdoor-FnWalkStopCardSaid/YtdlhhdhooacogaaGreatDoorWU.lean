/-
  IsClass, IsType, isArg: all trees; isOperator, isOperatorName, shortCode, isShort.
-/
import Derived.Test.YtdlhhdhooacogaaGreatDoorWT
namespace Go.Proofs.YtdlhhdhooacogaaGreatDoor
open Go.RowKit

theorem types_any (d : Nat) : Wk 13 Good d ∧ Wk 38 Good d ∧ Wk 42 Good d := by
  induction d with
  | zero => exact ⟨.zero _ _, .zero _ _, .zero _ _⟩
  | succ d ih =>
    obtain ⟨hC, hT, hA⟩ := ih
    have hP := areParams_of d hT
    have hS := areStraight_of d hP
    have hC1 := isClass_of d hC hA hS
    have hM : Wk 56 Good d := by
      cases d with
      | zero => exact .zero _ _
      | succ d => exact isMember_of d hT (isFunctionType_of (d + 1) (isReturn_of (d + 1) hT) hP).mono
    have hT1 := isType_of d hC1 hC hT hM
    exact ⟨hC1, hT1, isArg_of d hT1 (isLiteral_of d hC hT) hA⟩

theorem good_two {kd tx : ByteArray} {nm : Int} {kids : List NT} (h : Good (.mk kd tx nm kids)) (hk : kd ∈ twoK) : ∃ k l, kids = [k, l] ∧ Good k ∧ Good l := by
  have hne : ∀ K : List ByteArray, (∀ x ∈ K, x ∉ twoK) → kd ∉ K := fun K hK hm => hK kd hm hk
  cases h with
  | leaf h => exact absurd h (hne leafK (by simp [leafK, twoK]))
  | one h hg => exact absurd h (hne oneK (by simp [oneK, twoK]))
  | two h h1 h2 => exact ⟨_, _, rfl, h1, h2⟩
  | qual h _ _ => exact absurd h (hne qualK (by simp [qualK, twoK]))
  | list h _ => exact absurd h (hne listK (by simp [listK, twoK]))
  | tmpl h _ _ => subst h; simp [twoK] at hk
  | func h _ _ => subst h; simp [twoK] at hk
  | proc h _ _ => subst h; simp [twoK] at hk

theorem good_tmpl {kd tx : ByteArray} {nm : Int} {kids : List NT} (h : Good (.mk kd tx nm kids)) (hk : kd = ⟨#[84, 101, 109, 112, 108, 97, 116, 101]⟩) : ∃ k ks, kids = k :: ks ∧ Good k := by
  subst hk
  cases h with
  | leaf h => simp [leafK] at h
  | one h hg => simp [oneK] at h
  | two h _ _ => simp [twoK] at h
  | qual h _ _ => simp [qualK] at h
  | list h _ => simp [listK] at h
  | tmpl h h1 _ => exact ⟨_, _, rfl, h1⟩
  | func h _ _ => simp at h
  | proc h _ _ => simp at h

theorem good_leaf {kd tx : ByteArray} {nm : Int} {kids : List NT} (h : Good (.mk kd tx nm kids)) (hk : kd ∈ leafK) : kids = [] := by
  have hne : ∀ K : List ByteArray, (∀ x ∈ K, x ∉ leafK) → kd ∉ K := fun K hK hm => hK kd hm hk
  cases h with
  | leaf h => rfl
  | one h hg => exact absurd h (hne oneK (by simp [oneK, leafK]))
  | two h h1 h2 => exact absurd h (hne twoK (by simp [twoK, leafK]))
  | qual h _ _ => exact absurd h (hne qualK (by simp [qualK, leafK]))
  | list h _ => exact absurd h (hne listK (by simp [listK, leafK]))
  | tmpl h _ _ => subst h; simp [leafK] at hk
  | func h _ _ => subst h; simp [leafK] at hk
  | proc h _ _ => subst h; simp [leafK] at hk

set_option maxHeartbeats 2000000 in
theorem isOperator_any (d : Nat) : Wk 44 Good d := by
  intro t kind text num a n cap w h ht hd
  have hcap := h.cap
  obtain ⟨kids, rfl, hz1, hz2, hn, hm, hk⟩ := h.kids
  have HDT := Lib.hid hd
  have HZ1 := Lib.hid hz1
  have HZ2 := Lib.hid hz2
  have HM := Lib.hid hm
  unfold maxLen at hz1 hz2 hm
  have HB0 := Lib.hid (box_at h)
  have HT0 := Lib.hid (ht.keep (below_new w (.cells #[.string kind, .string text, .int .i64 num, .slice a n cap] 24)))
  have HK0 := Lib.hid (hk.keep (below_new w (.cells #[.string kind, .string text, .int .i64 num, .slice a n cap] 24)))
  have HW0 := Lib.hid (below_new w (.cells #[.string kind, .string text, .int .i64 num, .slice a n cap] 24))
  have HN := Lib.hid hn
  clear hk h ht hd hn
  clear hcap
  rcases bt (kind.toList == [79, 112, 101, 114, 97, 116, 111, 114]) with qOperator | qOperator
  · by_cases hz0 : num = 0
    rotate_left
    · have qz : (num == 0) = false := by simpa using hz0
      go_enter Tryz.func44, Tryz.ntmps44
      go_wp2_with fail
      all_goals (go_ret; exact .no HW0.out)
    subst hz0
    by_cases hn0 : n = 0
    rotate_left
    · have qn : (n == 0) = false := by simpa using hn0
      have qn2 : 0 < n := by omega
      go_enter Tryz.func44, Tryz.ntmps44
      go_wp2_with fail
      all_goals (go_ret; exact .no HW0.out)
    subst hn0
    go_enter Tryz.func44, Tryz.ntmps44
    go_wp2_with fail
    refine (opcode_any _ _ HT0.out).mono ?_
    rintro e w1 ⟨s1, rfl, hb1⟩
    have HW1 := Lib.hid (behind HW0.out hb1)
    clear hb1
    go_wp2_with fail
    all_goals (go_ret; exact .yes (by have e := nil_of HN.out rfl; subst e; exact .leaf (memK qOperator (by simp [leafK]))) HW1.out)
  go_enter Tryz.func44, Tryz.ntmps44
  go_wp2_with fail
  go_ret
  exact .no HW0.out

set_option maxHeartbeats 4000000 in
theorem isOperatorName_any (d : Nat) : Wk 35 Good (d + 1) := by
  intro t kind text num a n cap w h ht hd
  have hcap := h.cap
  obtain ⟨kids, rfl, hz1, hz2, hn, hm, hk⟩ := h.kids
  have HD := Lib.hid (show ∀ k ∈ kids, Dep d k from hd)
  have HDT := Lib.hid hd
  have HZ1 := Lib.hid hz1
  have HZ2 := Lib.hid hz2
  have HM := Lib.hid hm
  unfold maxLen at hz1 hz2 hm
  have HB0 := Lib.hid (box_at h)
  have HT0 := Lib.hid (ht.keep (below_new w (.cells #[.string kind, .string text, .int .i64 num, .slice a n cap] 24)))
  have HK0 := Lib.hid (hk.keep (below_new w (.cells #[.string kind, .string text, .int .i64 num, .slice a n cap] 24)))
  have HW0 := Lib.hid (below_new w (.cells #[.string kind, .string text, .int .i64 num, .slice a n cap] 24))
  have HN := Lib.hid hn
  clear hk h ht hd hn
  clear hcap
  go_enter Tryz.func35, Tryz.ntmps35
  go_wp2_with fail
  refine ((isOperator_any (d + 1)).at HB0.out HT0.out HDT.out).mono ?_
  rintro e w1 ⟨b1, rfl, hp1, hb1⟩
  have HP1 := Lib.hid hp1
  have HB1 := Lib.hid (HB0.out.keep hb1)
  have HT1 := Lib.hid (HT0.out.keep hb1)
  have HK1 := Lib.hid (HK0.out.keep hb1)
  have HW1 := Lib.hid (behind HW0.out hb1)
  clear hp1 hb1
  obtain ⟨xb0, xb1, xb2, xb3⟩ := HB1.out.box
  cases b1 with
  | true =>
    go_wp2_with fail
    go_ret
    exact .yes (HP1.out (by simp)) HW1.out
  | false =>
    rcases bt (kind.toList == [81, 117, 97, 108, 105, 102, 105, 101, 100]) with qQualified | qQualified
    · go_wp2_with fail
      refine (plain_any _ _ _ _ _ _ 2 _).mono ?_
      rintro e w2 ⟨b2, rfl, hp2, hb2⟩
      have HP2 := Lib.hid hp2
      have HB2 := Lib.hid (HB1.out.keep hb2)
      have HT2 := Lib.hid (HT1.out.keep hb2)
      have HK2 := Lib.hid (HK1.out.keep hb2)
      have HW2 := Lib.hid (behind HW1.out hb2)
      clear hp2 hb2
      clear xb0 xb1 xb2 xb3
      obtain ⟨xb0, xb1, xb2, xb3⟩ := HB2.out.box
      cases b2 with
      | false =>
        go_wp2_with fail
        go_ret
        exact .no HW2.out
      | true =>
        obtain ⟨k0, k1, rfl⟩ := two_of HN.out (HP2.out (by simp))
        obtain rfl := HP2.out (by simp)
        obtain ⟨b, off, kd0, tx0, nm0, a0, n0, cap0, kd1, tx1, nm1, a1, n1, cap1, rfl, hx, hy⟩ := HK2.out.two
        have HX2 := Lib.hid hx
        have HY2 := Lib.hid hy
        clear hx hy
        clear xb0 xb1 xb2 xb3
        obtain ⟨xb0, xb1, xb2, xb3⟩ := HB2.out.box
        obtain ⟨xX0, xX1, xX2, xX3⟩ := HX2.out.cells
        obtain ⟨xY0, xY1, xY2, xY3⟩ := HY2.out.cells
        go_wp2_with fail
        refine ((types_any d).1.at HX2.out HT2.out (HD.out k0 (by simp))).mono ?_
        rintro e w3 ⟨b3, rfl, hp3, hb3⟩
        have HP3 := Lib.hid hp3
        have HB3 := Lib.hid (HB2.out.keep hb3)
        have HT3 := Lib.hid (HT2.out.keep hb3)
        have HX3 := Lib.hid (HX2.out.keep hb3)
        have HY3 := Lib.hid (HY2.out.keep hb3)
        have HW3 := Lib.hid (behind HW2.out hb3)
        clear hp3 hb3
        clear xb0 xb1 xb2 xb3 xX0 xX1 xX2 xX3 xY0 xY1 xY2 xY3
        obtain ⟨xb0, xb1, xb2, xb3⟩ := HB3.out.box
        obtain ⟨xX0, xX1, xX2, xX3⟩ := HX3.out.cells
        obtain ⟨xY0, xY1, xY2, xY3⟩ := HY3.out.cells
        cases b3 with
        | false =>
          go_wp2_with fail
          go_ret
          exact .no HW3.out
        | true =>
          go_wp2_with fail
          refine ((isOperator_any d).at HY3.out HT3.out (HD.out k1 (by simp))).mono ?_
          rintro e w4 ⟨b4, rfl, hp4, hb4⟩
          have HP4 := Lib.hid hp4
          have HB4 := Lib.hid (HB3.out.keep hb4)
          have HT4 := Lib.hid (HT3.out.keep hb4)
          have HX4 := Lib.hid (HX3.out.keep hb4)
          have HY4 := Lib.hid (HY3.out.keep hb4)
          have HW4 := Lib.hid (behind HW3.out hb4)
          clear hp4 hb4
          clear xb0 xb1 xb2 xb3 xX0 xX1 xX2 xX3 xY0 xY1 xY2 xY3
          obtain ⟨xb0, xb1, xb2, xb3⟩ := HB4.out.box
          obtain ⟨xX0, xX1, xX2, xX3⟩ := HX4.out.cells
          obtain ⟨xY0, xY1, xY2, xY3⟩ := HY4.out.cells
          cases b4 with
          | false =>
            go_wp2_with fail
            go_ret
            exact .no HW4.out
          | true =>
            go_wp2_with fail
            go_ret
            exact .yes (.two (memK qQualified (by simp [twoK])) (HP3.out (by simp)) (HP4.out (by simp))) HW4.out
    go_wp2_with fail
    go_ret
    exact .no HW1.out

set_option maxHeartbeats 4000000 in
theorem shortCode_any (d : Nat) (t : NT) (kind text : ByteArray) (num : Int) (a : Option Addr) (n cap : Nat) (w : World) (h : NV w [.string kind, .string text, .int .i64 num, .slice a n cap] t) (ht : Tabs w) (hd : Dep (d + 1) t) (hgood : Good t) :
    Calls Tryz.prog 60 #[.agg #[.string kind, .string text, .int .i64 num, .slice a n cap]] w (SaysS w) := by
  have hcap := h.cap
  obtain ⟨kids, rfl, hz1, hz2, hn, hm, hk⟩ := h.kids
  have HD := Lib.hid (show ∀ k ∈ kids, Dep d k from hd)
  have HDT := Lib.hid hd
  have HZ1 := Lib.hid hz1
  have HZ2 := Lib.hid hz2
  have HM := Lib.hid hm
  unfold maxLen at hz1 hz2 hm
  have HB0 := Lib.hid (box_at h)
  have HT0 := Lib.hid (ht.keep (below_new w (.cells #[.string kind, .string text, .int .i64 num, .slice a n cap] 24)))
  have HK0 := Lib.hid (hk.keep (below_new w (.cells #[.string kind, .string text, .int .i64 num, .slice a n cap] 24)))
  have HW0 := Lib.hid (below_new w (.cells #[.string kind, .string text, .int .i64 num, .slice a n cap] 24))
  have HN := Lib.hid hn
  clear hk h ht hd hn
  rcases bt (kind.toList == [81, 117, 97, 108, 105, 102, 105, 101, 100]) with qQualified | qQualified
  · obtain ⟨k0, k1, rfl, _, _⟩ := good_two hgood (memK qQualified (by simp [twoK]))
    obtain rfl : n = 2 := HN.out
    clear hgood hcap
    obtain ⟨b, off, kd0, tx0, nm0, a0, n0, cap0, kd1, tx1, nm1, a1, n1, cap1, rfl, hx, hy⟩ := HK0.out.two
    have HX0 := Lib.hid hx
    have HY0 := Lib.hid hy
    clear hx hy
    obtain ⟨xb0, xb1, xb2, xb3⟩ := HB0.out.box
    obtain ⟨xX0, xX1, xX2, xX3⟩ := HX0.out.cells
    obtain ⟨xY0, xY1, xY2, xY3⟩ := HY0.out.cells
    go_enter Tryz.func60, Tryz.ntmps60
    go_wp2_with fail
    refine ((isStd_any d).at HX0.out HT0.out (HD.out k0 (by simp))).mono ?_
    rintro e w1 ⟨b1, rfl, hp1, hb1⟩
    have HP1 := Lib.hid hp1
    have HB1 := Lib.hid (HB0.out.keep hb1)
    have HT1 := Lib.hid (HT0.out.keep hb1)
    have HX1 := Lib.hid (HX0.out.keep hb1)
    have HY1 := Lib.hid (HY0.out.keep hb1)
    have HW1 := Lib.hid (behind HW0.out hb1)
    clear hp1 hb1
    clear xb0 xb1 xb2 xb3 xX0 xX1 xX2 xX3 xY0 xY1 xY2 xY3
    obtain ⟨xb0, xb1, xb2, xb3⟩ := HB1.out.box
    obtain ⟨xX0, xX1, xX2, xX3⟩ := HX1.out.cells
    obtain ⟨xY0, xY1, xY2, xY3⟩ := HY1.out.cells
    cases b1 with
    | false =>
      go_wp2_with fail
      all_goals (go_ret; exact ⟨_, rfl, HW1.out⟩)
    | true =>
      rcases bt (kd1.toList == [78, 97, 109, 101]) with qfName | qfName
      · rcases bt (tx1.toList == [97, 108, 108, 111, 99, 97, 116, 111, 114]) with qallocator | qallocator
        · go_wp2_with fail
          all_goals (go_ret; exact ⟨_, rfl, HW1.out⟩)
        rcases bt (tx1.toList == [98, 97, 115, 105, 99, 95, 115, 116, 114, 105, 110, 103]) with qbasicstring | qbasicstring
        · go_wp2_with fail
          all_goals (go_ret; exact ⟨_, rfl, HW1.out⟩)
        rcases bt (tx1.toList == [115, 116, 114, 105, 110, 103]) with qstring | qstring
        · go_wp2_with fail
          all_goals (go_ret; exact ⟨_, rfl, HW1.out⟩)
        rcases bt (tx1.toList == [105, 115, 116, 114, 101, 97, 109]) with qistream | qistream
        · go_wp2_with fail
          all_goals (go_ret; exact ⟨_, rfl, HW1.out⟩)
        rcases bt (tx1.toList == [111, 115, 116, 114, 101, 97, 109]) with qostream | qostream
        · go_wp2_with fail
          all_goals (go_ret; exact ⟨_, rfl, HW1.out⟩)
        rcases bt (tx1.toList == [105, 111, 115, 116, 114, 101, 97, 109]) with qiostream | qiostream
        · go_wp2_with fail
          all_goals (go_ret; exact ⟨_, rfl, HW1.out⟩)
        go_wp2_with fail
        all_goals (go_ret; exact ⟨_, rfl, HW1.out⟩)
      · go_wp2_with fail
        all_goals (go_ret; exact ⟨_, rfl, HW1.out⟩)
  go_enter Tryz.func60, Tryz.ntmps60
  go_wp2_with fail
  all_goals (go_ret; exact ⟨_, rfl, HW0.out⟩)

set_option maxHeartbeats 4000000 in
theorem isShort_any (d : Nat) (t : NT) (kind text : ByteArray) (num : Int) (a : Option Addr) (n cap : Nat) (w : World) (h : NV w [.string kind, .string text, .int .i64 num, .slice a n cap] t) (ht : Tabs w) (hd : Dep (d + 1) t) (hgood : Good t) :
    Calls Tryz.prog 45 #[.agg #[.string kind, .string text, .int .i64 num, .slice a n cap]] w (SaysIf True w) := by
  have hcap := h.cap
  obtain ⟨kids, rfl, hz1, hz2, hn, hm, hk⟩ := h.kids
  have HH := Lib.hid h
  have HTT := Lib.hid ht
  have HD := Lib.hid (show ∀ k ∈ kids, Dep d k from hd)
  have HDT := Lib.hid hd
  have HZ1 := Lib.hid hz1
  have HZ2 := Lib.hid hz2
  have HM := Lib.hid hm
  unfold maxLen at hz1 hz2 hm
  have HB0 := Lib.hid (box_at h)
  have HT0 := Lib.hid (ht.keep (below_new w (.cells #[.string kind, .string text, .int .i64 num, .slice a n cap] 24)))
  have HK0 := Lib.hid (hk.keep (below_new w (.cells #[.string kind, .string text, .int .i64 num, .slice a n cap] 24)))
  have HW0 := Lib.hid (below_new w (.cells #[.string kind, .string text, .int .i64 num, .slice a n cap] 24))
  have HN := Lib.hid hn
  clear hk h ht hd hn
  have HG := Lib.hid hgood
  clear hgood hcap
  go_enter Tryz.func45, Tryz.ntmps45
  go_wp2_with fail
  refine (shortCode_any d _ _ _ _ _ _ _ _ HB0.out.nv HT0.out HDT.out HG.out).mono ?_
  rintro e w1 ⟨s1, rfl, hb1⟩
  have HW1 := Lib.hid (behind HW0.out hb1)
  clear hb1
  go_wp2_with fail
  all_goals (go_ret; exact .any HW1.out)

end Go.Proofs.YtdlhhdhooacogaaGreatDoor

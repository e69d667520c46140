/-
  isUnnamed, IsClass, isLiteral, isQualified, isFloating, isObject.
-/
import Derived.Test.YtdlhhdhooacogaaGreatDoorWK
namespace Go.Proofs.YtdlhhdhooacogaaGreatDoor
open Go.RowKit

set_option maxHeartbeats 4000000 in
theorem isUnnamed_of (d : Nat) (hS : WkL 41 d) : Wk 27 Good (d + 1) := by
  intro t kind text num a n cap w h ht hd
  have hcap := h.cap
  obtain ⟨kids, rfl, hz1, hz2, hn, hm, hk⟩ := h.kids
  have HD := Lib.hid (show ∀ k ∈ kids, Dep d k from hd)
  have HDT := Lib.hid hd
  have HZ1 := Lib.hid hz1
  have HZ2 := Lib.hid hz2
  have HM := Lib.hid hm
  unfold maxLen at hz1 hz2 hm
  have HB0 := Lib.hid (box_at h)
  have HT0 := Lib.hid (ht.keep (below_new w (.cells #[.string kind, .string text, .int .i64 num, .slice a n cap] 24)))
  have HK0 := Lib.hid (hk.keep (below_new w (.cells #[.string kind, .string text, .int .i64 num, .slice a n cap] 24)))
  have HW0 := Lib.hid (below_new w (.cells #[.string kind, .string text, .int .i64 num, .slice a n cap] 24))
  have HN := Lib.hid hn
  clear hk h ht hd hn
  have HS := Lib.hid hS
  clear hS hcap
  rcases bt text.toList.isEmpty with qt | qt
  rotate_left
  · go_enter Tryz.func27, Tryz.ntmps27
    go_wp2_with fail
    go_ret
    exact .no HW0.out
  by_cases hl : num < 0
  · go_enter Tryz.func27, Tryz.ntmps27
    go_wp2_with fail
    go_ret
    exact .no HW0.out
  by_cases hl2 : 1000 < num
  · go_enter Tryz.func27, Tryz.ntmps27
    go_wp2_with fail
    all_goals (go_ret; exact .no HW0.out)
  rcases bt (kind.toList == [85, 110, 110, 97, 109, 101, 100, 84, 121, 112, 101]) with qUnnamedType | qUnnamedType
  · by_cases hn0 : n = 0
    · subst hn0
      go_enter Tryz.func27, Tryz.ntmps27
      go_wp2_with fail
      all_goals (go_ret; exact .yes (by have e := nil_of HN.out rfl; subst e; exact .leaf (memK qUnnamedType (by simp [leafK]))) HW0.out)
    have qn : ((n : Int) == 0) = false := by simp; omega
    go_enter Tryz.func27, Tryz.ntmps27
    go_wp2_with fail
    all_goals (go_ret; exact .no HW0.out)
  rcases bt (kind.toList == [67, 108, 111, 115, 117, 114, 101]) with qClosure | qClosure
  · go_enter Tryz.func27, Tryz.ntmps27
    go_wp2_with fail
    refine (HS.out kids a n cap _ HK0.out HN.out HM.out HT0.out HD.out).mono ?_
    rintro e w1 ⟨b1, rfl, hp1, hb1⟩
    have HP1 := Lib.hid hp1
    have HB1 := Lib.hid (HB0.out.keep hb1)
    have HT1 := Lib.hid (HT0.out.keep hb1)
    have HK1 := Lib.hid (HK0.out.keep hb1)
    have HW1 := Lib.hid (behind HW0.out hb1)
    clear hp1 hb1
    obtain ⟨xb0, xb1, xb2, xb3⟩ := HB1.out.box
    go_wp2_with fail
    go_ret
    exact ⟨_, rfl, fun h => .list (memK qClosure (by simp [listK])) (HP1.out h), HW1.out⟩
  go_enter Tryz.func27, Tryz.ntmps27
  go_wp2_with fail
  all_goals (go_ret; exact .no HW0.out)

set_option maxHeartbeats 4000000 in
theorem isClass_of (d : Nat) (hC : Wk 13 Good d) (hA : Wk 42 Good d) (hS : WkL 41 d) : Wk 13 Good (d + 1) := by
  intro t kind text num a n cap w h ht hd
  have hcap := h.cap
  obtain ⟨kids, rfl, hz1, hz2, hn, hm, hk⟩ := h.kids
  have HD := Lib.hid (show ∀ k ∈ kids, Dep d k from hd)
  have HDT := Lib.hid hd
  have HZ1 := Lib.hid hz1
  have HZ2 := Lib.hid hz2
  have HM := Lib.hid hm
  unfold maxLen at hz1 hz2 hm
  have HB0 := Lib.hid (box_at h)
  have HT0 := Lib.hid (ht.keep (below_new w (.cells #[.string kind, .string text, .int .i64 num, .slice a n cap] 24)))
  have HK0 := Lib.hid (hk.keep (below_new w (.cells #[.string kind, .string text, .int .i64 num, .slice a n cap] 24)))
  have HW0 := Lib.hid (below_new w (.cells #[.string kind, .string text, .int .i64 num, .slice a n cap] 24))
  have HN := Lib.hid hn
  clear hk h ht hd hn
  have HC := Lib.hid hC
  have HTM := Lib.hid (isTemplate_of d hA)
  have HUN := Lib.hid (Wk.mono (isUnnamed_of d hS))
  clear hC hA hS hcap
  rcases bt (kind.toList == [78, 97, 109, 101]) with qName | qName
  · go_enter Tryz.func13, Tryz.ntmps13
    go_wp2_with fail
    refine ((isTagged_any (d + 1)).at HB0.out HT0.out HDT.out).mono ?_
    rintro e w1 ⟨b1, rfl, hp1, hb1⟩
    have HP1 := Lib.hid hp1
    have HB1 := Lib.hid (HB0.out.keep hb1)
    have HT1 := Lib.hid (HT0.out.keep hb1)
    have HK1 := Lib.hid (HK0.out.keep hb1)
    have HW1 := Lib.hid (behind HW0.out hb1)
    clear hp1 hb1
    obtain ⟨xb0, xb1, xb2, xb3⟩ := HB1.out.box
    cases b1 with
    | false =>
      go_wp2_with fail
      go_ret
      exact .no HW1.out
    | true =>
      go_wp2_with fail
      go_ret
      exact .yes (HP1.out (by simp)) HW1.out
  rcases bt (kind.toList == [84, 97, 103, 103, 101, 100, 78, 97, 109, 101]) with qTaggedName | qTaggedName
  · go_enter Tryz.func13, Tryz.ntmps13
    go_wp2_with fail
    refine ((isTagged_any (d + 1)).at HB0.out HT0.out HDT.out).mono ?_
    rintro e w1 ⟨b1, rfl, hp1, hb1⟩
    have HP1 := Lib.hid hp1
    have HB1 := Lib.hid (HB0.out.keep hb1)
    have HT1 := Lib.hid (HT0.out.keep hb1)
    have HK1 := Lib.hid (HK0.out.keep hb1)
    have HW1 := Lib.hid (behind HW0.out hb1)
    clear hp1 hb1
    obtain ⟨xb0, xb1, xb2, xb3⟩ := HB1.out.box
    cases b1 with
    | false =>
      go_wp2_with fail
      go_ret
      exact .no HW1.out
    | true =>
      go_wp2_with fail
      go_ret
      exact .yes (HP1.out (by simp)) HW1.out
  rcases bt (kind.toList == [81, 117, 97, 108, 105, 102, 105, 101, 100]) with qQualified | qQualified
  · go_enter Tryz.func13, Tryz.ntmps13
    go_wp2_with fail
    refine (plain_any _ _ _ _ _ _ 2 _).mono ?_
    rintro e w1 ⟨b1, rfl, hp1, hb1⟩
    have HP1 := Lib.hid hp1
    have HB1 := Lib.hid (HB0.out.keep hb1)
    have HT1 := Lib.hid (HT0.out.keep hb1)
    have HK1 := Lib.hid (HK0.out.keep hb1)
    have HW1 := Lib.hid (behind HW0.out hb1)
    clear hp1 hb1
    obtain ⟨xb0, xb1, xb2, xb3⟩ := HB1.out.box
    cases b1 with
    | false =>
      go_wp2_with fail
      go_ret
      exact .no HW1.out
    | true =>
      obtain ⟨k0, k1, rfl⟩ := two_of HN.out (HP1.out (by simp))
      obtain rfl := HP1.out (by simp)
      obtain ⟨b, off, kd0, tx0, nm0, a0, n0, cap0, kd1, tx1, nm1, a1, n1, cap1, rfl, hx, hy⟩ := HK1.out.two
      have HX1 := Lib.hid hx
      have HY1 := Lib.hid hy
      clear hx hy
      clear xb0 xb1 xb2 xb3
      obtain ⟨xb0, xb1, xb2, xb3⟩ := HB1.out.box
      obtain ⟨xX0, xX1, xX2, xX3⟩ := HX1.out.cells
      obtain ⟨xY0, xY1, xY2, xY3⟩ := HY1.out.cells
      go_wp2_with fail
      refine (HC.out.at HX1.out HT1.out (HD.out k0 (by simp))).mono ?_
      rintro e w2 ⟨b2, rfl, hp2, hb2⟩
      have HP2 := Lib.hid hp2
      have HB2 := Lib.hid (HB1.out.keep hb2)
      have HT2 := Lib.hid (HT1.out.keep hb2)
      have HX2 := Lib.hid (HX1.out.keep hb2)
      have HY2 := Lib.hid (HY1.out.keep hb2)
      have HW2 := Lib.hid (behind HW1.out hb2)
      clear hp2 hb2
      clear xb0 xb1 xb2 xb3 xX0 xX1 xX2 xX3 xY0 xY1 xY2 xY3
      obtain ⟨xb0, xb1, xb2, xb3⟩ := HB2.out.box
      obtain ⟨xX0, xX1, xX2, xX3⟩ := HX2.out.cells
      obtain ⟨xY0, xY1, xY2, xY3⟩ := HY2.out.cells
      cases b2 with
      | false =>
        go_wp2_with fail
        go_ret
        exact .no HW2.out
      | true =>
        go_wp2_with fail
        refine ((isTagged_any d).at HY2.out HT2.out (HD.out k1 (by simp))).mono ?_
        rintro e w3 ⟨b3, rfl, hp3, hb3⟩
        have HP3 := Lib.hid hp3
        have HB3 := Lib.hid (HB2.out.keep hb3)
        have HT3 := Lib.hid (HT2.out.keep hb3)
        have HX3 := Lib.hid (HX2.out.keep hb3)
        have HY3 := Lib.hid (HY2.out.keep hb3)
        have HW3 := Lib.hid (behind HW2.out hb3)
        clear hp3 hb3
        clear xb0 xb1 xb2 xb3 xX0 xX1 xX2 xX3 xY0 xY1 xY2 xY3
        obtain ⟨xb0, xb1, xb2, xb3⟩ := HB3.out.box
        obtain ⟨xX0, xX1, xX2, xX3⟩ := HX3.out.cells
        obtain ⟨xY0, xY1, xY2, xY3⟩ := HY3.out.cells
        cases b3 with
        | true =>
          go_wp2_with fail
          go_ret
          exact .yes (.two (memK qQualified (by simp [twoK])) (HP2.out (by simp)) (HP3.out (by simp))) HW3.out
        | false =>
          go_wp2_with fail
          refine (HUN.out.at HY3.out HT3.out (HD.out k1 (by simp))).mono ?_
          rintro e w4 ⟨b4, rfl, hp4, hb4⟩
          have HP4 := Lib.hid hp4
          have HB4 := Lib.hid (HB3.out.keep hb4)
          have HT4 := Lib.hid (HT3.out.keep hb4)
          have HX4 := Lib.hid (HX3.out.keep hb4)
          have HY4 := Lib.hid (HY3.out.keep hb4)
          have HW4 := Lib.hid (behind HW3.out hb4)
          clear hp4 hb4
          clear xb0 xb1 xb2 xb3 xX0 xX1 xX2 xX3 xY0 xY1 xY2 xY3
          obtain ⟨xb0, xb1, xb2, xb3⟩ := HB4.out.box
          obtain ⟨xX0, xX1, xX2, xX3⟩ := HX4.out.cells
          obtain ⟨xY0, xY1, xY2, xY3⟩ := HY4.out.cells
          cases b4 with
          | false =>
            go_wp2_with fail
            go_ret
            exact .no HW4.out
          | true =>
            go_wp2_with fail
            go_ret
            exact .yes (.two (memK qQualified (by simp [twoK])) (HP2.out (by simp)) (HP4.out (by simp))) HW4.out
  rcases bt (kind.toList == [84, 101, 109, 112, 108, 97, 116, 101]) with qTemplate | qTemplate
  · go_enter Tryz.func13, Tryz.ntmps13
    go_wp2_with fail
    refine (HTM.out.at HB0.out HT0.out HDT.out).mono ?_
    rintro e w1 ⟨b1, rfl, hp1, hb1⟩
    have HP1 := Lib.hid hp1
    have HB1 := Lib.hid (HB0.out.keep hb1)
    have HT1 := Lib.hid (HT0.out.keep hb1)
    have HK1 := Lib.hid (HK0.out.keep hb1)
    have HW1 := Lib.hid (behind HW0.out hb1)
    clear hp1 hb1
    obtain ⟨xb0, xb1, xb2, xb3⟩ := HB1.out.box
    cases b1 with
    | false =>
      go_wp2_with fail
      go_ret
      exact .no HW1.out
    | true =>
      obtain ⟨k0, ks, ek, hgs⟩ := HP1.out (by simp)
      simp [NT.kids] at ek
      subst ek
      have HGS := Lib.hid hgs
      clear hgs
      have hn1 : 0 < n := by have := HN.out; simp at this; omega
      obtain ⟨b, off, kd0, tx0, nm0, a0, n0, cap0, rfl, hx⟩ := HK1.out.one
      have HX1 := Lib.hid hx
      clear hx
      clear xb0 xb1 xb2 xb3
      obtain ⟨xb0, xb1, xb2, xb3⟩ := HB1.out.box
      obtain ⟨xX0, xX1, xX2, xX3⟩ := HX1.out.cells
      go_wp2_with fail
      refine (HC.out.at HX1.out HT1.out (HD.out k0 (by simp))).mono ?_
      rintro e w2 ⟨b2, rfl, hp2, hb2⟩
      have HP2 := Lib.hid hp2
      have HB2 := Lib.hid (HB1.out.keep hb2)
      have HT2 := Lib.hid (HT1.out.keep hb2)
      have HX2 := Lib.hid (HX1.out.keep hb2)
      have HW2 := Lib.hid (behind HW1.out hb2)
      clear hp2 hb2
      clear xb0 xb1 xb2 xb3 xX0 xX1 xX2 xX3
      obtain ⟨xb0, xb1, xb2, xb3⟩ := HB2.out.box
      obtain ⟨xX0, xX1, xX2, xX3⟩ := HX2.out.cells
      cases b2 with
      | false =>
        go_wp2_with fail
        go_ret
        exact .no HW2.out
      | true =>
        rcases bt (kd0.toList == [84, 101, 109, 112, 108, 97, 116, 101]) with qfTemplate | qfTemplate
        · go_wp2_with fail
          all_goals (go_ret; exact .no HW2.out)
        · go_wp2_with fail
          refine ((isStd_any d).at HX2.out HT2.out (HD.out k0 (by simp))).mono ?_
          rintro e w3 ⟨b3, rfl, hp3, hb3⟩
          have HP3 := Lib.hid hp3
          have HB3 := Lib.hid (HB2.out.keep hb3)
          have HT3 := Lib.hid (HT2.out.keep hb3)
          have HX3 := Lib.hid (HX2.out.keep hb3)
          have HW3 := Lib.hid (behind HW2.out hb3)
          clear hp3 hb3
          clear xb0 xb1 xb2 xb3 xX0 xX1 xX2 xX3
          obtain ⟨xb0, xb1, xb2, xb3⟩ := HB3.out.box
          obtain ⟨xX0, xX1, xX2, xX3⟩ := HX3.out.cells
          go_wp2_with fail
          all_goals (go_ret; exact .yes (.tmpl (eq_list qTemplate) (HP2.out (by simp)) HGS.out) HW3.out)
  go_enter Tryz.func13, Tryz.ntmps13
  go_wp2_with fail
  go_ret
  exact .no HW0.out

set_option maxHeartbeats 2000000 in
theorem isQualified_of (d : Nat) (hT : Wk 38 Good d) : Wk 51 Good d := by
  intro t kind text num a n cap w h ht hd
  have hcap := h.cap
  obtain ⟨kids, rfl, hz1, hz2, hn, hm, hk⟩ := h.kids
  have HDT := Lib.hid hd
  have HZ1 := Lib.hid hz1
  have HZ2 := Lib.hid hz2
  have HM := Lib.hid hm
  unfold maxLen at hz1 hz2 hm
  have HB0 := Lib.hid (box_at h)
  have HT0 := Lib.hid (ht.keep (below_new w (.cells #[.string kind, .string text, .int .i64 num, .slice a n cap] 24)))
  have HK0 := Lib.hid (hk.keep (below_new w (.cells #[.string kind, .string text, .int .i64 num, .slice a n cap] 24)))
  have HW0 := Lib.hid (below_new w (.cells #[.string kind, .string text, .int .i64 num, .slice a n cap] 24))
  have HN := Lib.hid hn
  clear hk h ht hd hn
  have HTY := Lib.hid hT
  clear hT hcap
  rcases bt (kind.toList == [66, 117, 105, 108, 116, 105, 110, 84, 121, 112, 101]) with qBuiltinType | qBuiltinType
  · go_enter Tryz.func51, Tryz.ntmps51
    go_wp2_with fail
    refine (HTY.out.at HB0.out HT0.out HDT.out).mono ?_
    rintro e w1 ⟨b1, rfl, hp1, hb1⟩
    have HP1 := Lib.hid hp1
    have HB1 := Lib.hid (HB0.out.keep hb1)
    have HT1 := Lib.hid (HT0.out.keep hb1)
    have HK1 := Lib.hid (HK0.out.keep hb1)
    have HW1 := Lib.hid (behind HW0.out hb1)
    clear hp1 hb1
    obtain ⟨xb0, xb1, xb2, xb3⟩ := HB1.out.box
    cases b1 with
    | false =>
      go_wp2_with fail
      go_ret
      exact .no HW1.out
    | true =>
      go_wp2_with fail
      go_ret
      exact .yes (HP1.out (by simp)) HW1.out
  rcases bt (kind.toList == [80, 111, 105, 110, 116, 101, 114, 84, 121, 112, 101]) with qPointerType | qPointerType
  · go_enter Tryz.func51, Tryz.ntmps51
    go_wp2_with fail
    refine (HTY.out.at HB0.out HT0.out HDT.out).mono ?_
    rintro e w1 ⟨b1, rfl, hp1, hb1⟩
    have HP1 := Lib.hid hp1
    have HB1 := Lib.hid (HB0.out.keep hb1)
    have HT1 := Lib.hid (HT0.out.keep hb1)
    have HK1 := Lib.hid (HK0.out.keep hb1)
    have HW1 := Lib.hid (behind HW0.out hb1)
    clear hp1 hb1
    obtain ⟨xb0, xb1, xb2, xb3⟩ := HB1.out.box
    cases b1 with
    | false =>
      go_wp2_with fail
      go_ret
      exact .no HW1.out
    | true =>
      go_wp2_with fail
      go_ret
      exact .yes (HP1.out (by simp)) HW1.out
  rcases bt (kind.toList == [80, 116, 114, 77, 101, 109]) with qPtrMem | qPtrMem
  · go_enter Tryz.func51, Tryz.ntmps51
    go_wp2_with fail
    refine (HTY.out.at HB0.out HT0.out HDT.out).mono ?_
    rintro e w1 ⟨b1, rfl, hp1, hb1⟩
    have HP1 := Lib.hid hp1
    have HB1 := Lib.hid (HB0.out.keep hb1)
    have HT1 := Lib.hid (HT0.out.keep hb1)
    have HK1 := Lib.hid (HK0.out.keep hb1)
    have HW1 := Lib.hid (behind HW0.out hb1)
    clear hp1 hb1
    obtain ⟨xb0, xb1, xb2, xb3⟩ := HB1.out.box
    cases b1 with
    | false =>
      go_wp2_with fail
      go_ret
      exact .no HW1.out
    | true =>
      go_wp2_with fail
      go_ret
      exact .yes (HP1.out (by simp)) HW1.out
  rcases bt (kind.toList == [78, 97, 109, 101]) with qName | qName
  · go_enter Tryz.func51, Tryz.ntmps51
    go_wp2_with fail
    refine (HTY.out.at HB0.out HT0.out HDT.out).mono ?_
    rintro e w1 ⟨b1, rfl, hp1, hb1⟩
    have HP1 := Lib.hid hp1
    have HB1 := Lib.hid (HB0.out.keep hb1)
    have HT1 := Lib.hid (HT0.out.keep hb1)
    have HK1 := Lib.hid (HK0.out.keep hb1)
    have HW1 := Lib.hid (behind HW0.out hb1)
    clear hp1 hb1
    obtain ⟨xb0, xb1, xb2, xb3⟩ := HB1.out.box
    cases b1 with
    | false =>
      go_wp2_with fail
      go_ret
      exact .no HW1.out
    | true =>
      go_wp2_with fail
      go_ret
      exact .yes (HP1.out (by simp)) HW1.out
  rcases bt (kind.toList == [84, 97, 103, 103, 101, 100, 78, 97, 109, 101]) with qTaggedName | qTaggedName
  · go_enter Tryz.func51, Tryz.ntmps51
    go_wp2_with fail
    refine (HTY.out.at HB0.out HT0.out HDT.out).mono ?_
    rintro e w1 ⟨b1, rfl, hp1, hb1⟩
    have HP1 := Lib.hid hp1
    have HB1 := Lib.hid (HB0.out.keep hb1)
    have HT1 := Lib.hid (HT0.out.keep hb1)
    have HK1 := Lib.hid (HK0.out.keep hb1)
    have HW1 := Lib.hid (behind HW0.out hb1)
    clear hp1 hb1
    obtain ⟨xb0, xb1, xb2, xb3⟩ := HB1.out.box
    cases b1 with
    | false =>
      go_wp2_with fail
      go_ret
      exact .no HW1.out
    | true =>
      go_wp2_with fail
      go_ret
      exact .yes (HP1.out (by simp)) HW1.out
  rcases bt (kind.toList == [81, 117, 97, 108, 105, 102, 105, 101, 100]) with qQualified | qQualified
  · go_enter Tryz.func51, Tryz.ntmps51
    go_wp2_with fail
    refine (HTY.out.at HB0.out HT0.out HDT.out).mono ?_
    rintro e w1 ⟨b1, rfl, hp1, hb1⟩
    have HP1 := Lib.hid hp1
    have HB1 := Lib.hid (HB0.out.keep hb1)
    have HT1 := Lib.hid (HT0.out.keep hb1)
    have HK1 := Lib.hid (HK0.out.keep hb1)
    have HW1 := Lib.hid (behind HW0.out hb1)
    clear hp1 hb1
    obtain ⟨xb0, xb1, xb2, xb3⟩ := HB1.out.box
    cases b1 with
    | false =>
      go_wp2_with fail
      go_ret
      exact .no HW1.out
    | true =>
      go_wp2_with fail
      go_ret
      exact .yes (HP1.out (by simp)) HW1.out
  rcases bt (kind.toList == [84, 101, 109, 112, 108, 97, 116, 101]) with qTemplate | qTemplate
  · go_enter Tryz.func51, Tryz.ntmps51
    go_wp2_with fail
    refine (HTY.out.at HB0.out HT0.out HDT.out).mono ?_
    rintro e w1 ⟨b1, rfl, hp1, hb1⟩
    have HP1 := Lib.hid hp1
    have HB1 := Lib.hid (HB0.out.keep hb1)
    have HT1 := Lib.hid (HT0.out.keep hb1)
    have HK1 := Lib.hid (HK0.out.keep hb1)
    have HW1 := Lib.hid (behind HW0.out hb1)
    clear hp1 hb1
    obtain ⟨xb0, xb1, xb2, xb3⟩ := HB1.out.box
    cases b1 with
    | false =>
      go_wp2_with fail
      go_ret
      exact .no HW1.out
    | true =>
      go_wp2_with fail
      go_ret
      exact .yes (HP1.out (by simp)) HW1.out
  go_enter Tryz.func51, Tryz.ntmps51
  go_wp2_with fail
  go_ret
  exact .no HW0.out

set_option maxHeartbeats 2000000 in
theorem isFloating_of (d : Nat) (hT : Wk 38 Good d) : Wk 52 Good d := by
  intro t kind text num a n cap w h ht hd
  have hcap := h.cap
  obtain ⟨kids, rfl, hz1, hz2, hn, hm, hk⟩ := h.kids
  have HDT := Lib.hid hd
  have HZ1 := Lib.hid hz1
  have HZ2 := Lib.hid hz2
  have HM := Lib.hid hm
  unfold maxLen at hz1 hz2 hm
  have HB0 := Lib.hid (box_at h)
  have HT0 := Lib.hid (ht.keep (below_new w (.cells #[.string kind, .string text, .int .i64 num, .slice a n cap] 24)))
  have HK0 := Lib.hid (hk.keep (below_new w (.cells #[.string kind, .string text, .int .i64 num, .slice a n cap] 24)))
  have HW0 := Lib.hid (below_new w (.cells #[.string kind, .string text, .int .i64 num, .slice a n cap] 24))
  have HN := Lib.hid hn
  clear hk h ht hd hn
  have HTY := Lib.hid hT
  clear hT hcap
  rcases bt (kind.toList == [66, 117, 105, 108, 116, 105, 110, 84, 121, 112, 101]) with qBuiltinType | qBuiltinType
  · go_enter Tryz.func52, Tryz.ntmps52
    go_wp2_with fail
    refine (HTY.out.at HB0.out HT0.out HDT.out).mono ?_
    rintro e w1 ⟨b1, rfl, hp1, hb1⟩
    have HP1 := Lib.hid hp1
    have HB1 := Lib.hid (HB0.out.keep hb1)
    have HT1 := Lib.hid (HT0.out.keep hb1)
    have HK1 := Lib.hid (HK0.out.keep hb1)
    have HW1 := Lib.hid (behind HW0.out hb1)
    clear hp1 hb1
    obtain ⟨xb0, xb1, xb2, xb3⟩ := HB1.out.box
    cases b1 with
    | false =>
      go_wp2_with fail
      go_ret
      exact .no HW1.out
    | true =>
      go_wp2_with fail
      all_goals (go_ret; exact .yes (HP1.out (by simp)) HW1.out)
  go_enter Tryz.func52, Tryz.ntmps52
  go_wp2_with fail
  go_ret
  exact .no HW0.out

set_option maxHeartbeats 2000000 in
theorem isObject_of (d : Nat) (hT : Wk 38 Good d) : Wk 55 Good d := by
  intro t kind text num a n cap w h ht hd
  have hcap := h.cap
  obtain ⟨kids, rfl, hz1, hz2, hn, hm, hk⟩ := h.kids
  have HDT := Lib.hid hd
  have HZ1 := Lib.hid hz1
  have HZ2 := Lib.hid hz2
  have HM := Lib.hid hm
  unfold maxLen at hz1 hz2 hm
  have HB0 := Lib.hid (box_at h)
  have HT0 := Lib.hid (ht.keep (below_new w (.cells #[.string kind, .string text, .int .i64 num, .slice a n cap] 24)))
  have HK0 := Lib.hid (hk.keep (below_new w (.cells #[.string kind, .string text, .int .i64 num, .slice a n cap] 24)))
  have HW0 := Lib.hid (below_new w (.cells #[.string kind, .string text, .int .i64 num, .slice a n cap] 24))
  have HN := Lib.hid hn
  clear hk h ht hd hn
  have HTY := Lib.hid hT
  clear hT hcap
  go_enter Tryz.func55, Tryz.ntmps55
  go_wp2_with fail
  refine (HTY.out.at HB0.out HT0.out HDT.out).mono ?_
  rintro e w1 ⟨b1, rfl, hp1, hb1⟩
  have HP1 := Lib.hid hp1
  have HB1 := Lib.hid (HB0.out.keep hb1)
  have HT1 := Lib.hid (HT0.out.keep hb1)
  have HK1 := Lib.hid (HK0.out.keep hb1)
  have HW1 := Lib.hid (behind HW0.out hb1)
  clear hp1 hb1
  obtain ⟨xb0, xb1, xb2, xb3⟩ := HB1.out.box
  cases b1 with
  | false =>
    go_wp2_with fail
    go_ret
    exact .no HW1.out
  | true =>
    go_wp2_with fail
    refine ((isReference_any d).at HB1.out HT1.out HDT.out).mono ?_
    rintro e w2 ⟨b2, rfl, hp2, hb2⟩
    have HP2 := Lib.hid hp2
    have HB2 := Lib.hid (HB1.out.keep hb2)
    have HT2 := Lib.hid (HT1.out.keep hb2)
    have HK2 := Lib.hid (HK1.out.keep hb2)
    have HW2 := Lib.hid (behind HW1.out hb2)
    clear hp2 hb2
    clear xb0 xb1 xb2 xb3
    obtain ⟨xb0, xb1, xb2, xb3⟩ := HB2.out.box
    cases b2 with
    | true =>
      go_wp2_with fail
      go_ret
      exact .no HW2.out
    | false =>
      rcases bt (kind.toList == [70, 117, 110, 99, 116, 105, 111, 110, 84, 121, 112, 101]) with qfFunctionType | qfFunctionType
      · go_wp2_with fail
        go_ret
        exact .no HW2.out
      · go_wp2_with fail
        refine ((isVoid_any d).at HB2.out HT2.out HDT.out).mono ?_
        rintro e w3 ⟨b3, rfl, hp3, hb3⟩
        have HP3 := Lib.hid hp3
        have HB3 := Lib.hid (HB2.out.keep hb3)
        have HT3 := Lib.hid (HT2.out.keep hb3)
        have HK3 := Lib.hid (HK2.out.keep hb3)
        have HW3 := Lib.hid (behind HW2.out hb3)
        clear hp3 hb3
        clear xb0 xb1 xb2 xb3
        obtain ⟨xb0, xb1, xb2, xb3⟩ := HB3.out.box
        go_wp2_with fail
        all_goals (go_ret; exact .yes (HP1.out (by simp)) HW3.out)

end Go.Proofs.YtdlhhdhooacogaaGreatDoor

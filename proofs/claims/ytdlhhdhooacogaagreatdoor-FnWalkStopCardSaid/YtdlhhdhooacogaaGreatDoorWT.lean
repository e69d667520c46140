/-
  IsType.
-/
import Derived.Test.YtdlhhdhooacogaaGreatDoorWQ
import Derived.Test.YtdlhhdhooacogaaGreatDoorWR
import Derived.Test.YtdlhhdhooacogaaGreatDoorWS
namespace Go.Proofs.YtdlhhdhooacogaaGreatDoor
open Go.RowKit

set_option maxRecDepth 100000 in
set_option maxHeartbeats 16000000 in
theorem isType_of (d : Nat) (hC1 : Wk 13 Good (d + 1)) (hC : Wk 13 Good d) (hT : Wk 38 Good d) (hM : Wk 56 Good d) : Wk 38 Good (d + 1) := by
  intro t kind text num a n cap w h ht hd
  have hcap := h.cap
  obtain ⟨kids, rfl, hz1, hz2, hn, hm, hk⟩ := h.kids
  have HH := Lib.hid h
  have HTT := Lib.hid ht
  have HD := Lib.hid (show ∀ k ∈ kids, Dep d k from hd)
  have HDT := Lib.hid hd
  have HZ1 := Lib.hid hz1
  have HZ2 := Lib.hid hz2
  have HM := Lib.hid hm
  unfold maxLen at hz1 hz2 hm
  have HB0 := Lib.hid (box_at h)
  have HT0 := Lib.hid (ht.keep (below_new w (.cells #[.string kind, .string text, .int .i64 num, .slice a n cap] 24)))
  have HK0 := Lib.hid (hk.keep (below_new w (.cells #[.string kind, .string text, .int .i64 num, .slice a n cap] 24)))
  have HW0 := Lib.hid (below_new w (.cells #[.string kind, .string text, .int .i64 num, .slice a n cap] 24))
  have HN := Lib.hid hn
  clear hk h ht hd hn
  have HC1 := Lib.hid hC1
  have HC := Lib.hid hC
  have HTY := Lib.hid hT
  have HMB := Lib.hid hM
  have HFL := Lib.hid (isFloating_of d hT)
  have HOB := Lib.hid (isObject_of d hT)
  have HFT := Lib.hid (isFunctionType_of d (isReturn_of d hT) (areParams_of d hT))
  clear hC1 hC hT hM hcap
  rcases bt (kind.toList == [78, 97, 109, 101]) with qName | qName
  · go_enter Tryz.func38, Tryz.ntmps38
    go_wp2_with fail
    refine (HC1.out.at HB0.out HT0.out HDT.out).mono ?_
    rintro e w1 ⟨b1, rfl, hp1, hb1⟩
    have HP1 := Lib.hid hp1
    have HB1 := Lib.hid (HB0.out.keep hb1)
    have HT1 := Lib.hid (HT0.out.keep hb1)
    have HK1 := Lib.hid (HK0.out.keep hb1)
    have HW1 := Lib.hid (behind HW0.out hb1)
    clear hp1 hb1
    obtain ⟨xb0, xb1, xb2, xb3⟩ := HB1.out.box
    cases b1 with
    | false =>
      go_wp2_with fail
      go_ret
      exact .no HW1.out
    | true =>
      go_wp2_with fail
      go_ret
      exact .yes (HP1.out (by simp)) HW1.out
  rcases bt (kind.toList == [84, 97, 103, 103, 101, 100, 78, 97, 109, 101]) with qTaggedName | qTaggedName
  · go_enter Tryz.func38, Tryz.ntmps38
    go_wp2_with fail
    refine (HC1.out.at HB0.out HT0.out HDT.out).mono ?_
    rintro e w1 ⟨b1, rfl, hp1, hb1⟩
    have HP1 := Lib.hid hp1
    have HB1 := Lib.hid (HB0.out.keep hb1)
    have HT1 := Lib.hid (HT0.out.keep hb1)
    have HK1 := Lib.hid (HK0.out.keep hb1)
    have HW1 := Lib.hid (behind HW0.out hb1)
    clear hp1 hb1
    obtain ⟨xb0, xb1, xb2, xb3⟩ := HB1.out.box
    cases b1 with
    | false =>
      go_wp2_with fail
      go_ret
      exact .no HW1.out
    | true =>
      go_wp2_with fail
      go_ret
      exact .yes (HP1.out (by simp)) HW1.out
  rcases bt (kind.toList == [81, 117, 97, 108, 105, 102, 105, 101, 100]) with qQualified | qQualified
  · go_enter Tryz.func38, Tryz.ntmps38
    go_wp2_with fail
    refine (HC1.out.at HB0.out HT0.out HDT.out).mono ?_
    rintro e w1 ⟨b1, rfl, hp1, hb1⟩
    have HP1 := Lib.hid hp1
    have HB1 := Lib.hid (HB0.out.keep hb1)
    have HT1 := Lib.hid (HT0.out.keep hb1)
    have HK1 := Lib.hid (HK0.out.keep hb1)
    have HW1 := Lib.hid (behind HW0.out hb1)
    clear hp1 hb1
    obtain ⟨xb0, xb1, xb2, xb3⟩ := HB1.out.box
    cases b1 with
    | false =>
      go_wp2_with fail
      go_ret
      exact .no HW1.out
    | true =>
      go_wp2_with fail
      go_ret
      exact .yes (HP1.out (by simp)) HW1.out
  rcases bt (kind.toList == [84, 101, 109, 112, 108, 97, 116, 101]) with qTemplate | qTemplate
  · go_enter Tryz.func38, Tryz.ntmps38
    go_wp2_with fail
    refine (HC1.out.at HB0.out HT0.out HDT.out).mono ?_
    rintro e w1 ⟨b1, rfl, hp1, hb1⟩
    have HP1 := Lib.hid hp1
    have HB1 := Lib.hid (HB0.out.keep hb1)
    have HT1 := Lib.hid (HT0.out.keep hb1)
    have HK1 := Lib.hid (HK0.out.keep hb1)
    have HW1 := Lib.hid (behind HW0.out hb1)
    clear hp1 hb1
    obtain ⟨xb0, xb1, xb2, xb3⟩ := HB1.out.box
    cases b1 with
    | false =>
      go_wp2_with fail
      go_ret
      exact .no HW1.out
    | true =>
      go_wp2_with fail
      go_ret
      exact .yes (HP1.out (by simp)) HW1.out
  rcases bt (kind.toList == [66, 117, 105, 108, 116, 105, 110, 84, 121, 112, 101]) with qBuiltinType | qBuiltinType
  · by_cases hz0 : num = 0
    rotate_left
    · have qz : (num == 0) = false := by simpa using hz0
      go_enter Tryz.func38, Tryz.ntmps38
      go_wp2_with fail
      all_goals (go_ret; exact .no HW0.out)
    subst hz0
    by_cases hn0 : n = 0
    rotate_left
    · have qn : (n == 0) = false := by simpa using hn0
      have qn2 : 0 < n := by omega
      go_enter Tryz.func38, Tryz.ntmps38
      go_wp2_with fail
      all_goals (go_ret; exact .no HW0.out)
    subst hn0
    rcases bt (text.toList == [46, 46, 46]) with qd | qd
    · go_enter Tryz.func38, Tryz.ntmps38
      go_wp2_with fail
      all_goals (go_ret; exact .no HW0.out)
    · go_enter Tryz.func38, Tryz.ntmps38
      go_wp2_with fail
      refine (code_any _ _ HT0.out).mono ?_
      rintro e w1 ⟨s1, rfl, hb1⟩
      have HW1 := Lib.hid (behind HW0.out hb1)
      clear hb1
      go_wp2_with fail
      all_goals (go_ret; exact .yes (by have e := nil_of HN.out rfl; subst e; exact .leaf (memK qBuiltinType (by simp [leafK]))) HW1.out)
  rcases bt (kind.toList == [80, 111, 105, 110, 116, 101, 114, 84, 121, 112, 101]) with qPointerType | qPointerType
  · go_enter Tryz.func38, Tryz.ntmps38
    go_wp2_with fail
    refine (plain_any _ _ _ _ _ _ 1 _).mono ?_
    rintro e w1 ⟨b1, rfl, hp1, hb1⟩
    have HP1 := Lib.hid hp1
    have HB1 := Lib.hid (HB0.out.keep hb1)
    have HT1 := Lib.hid (HT0.out.keep hb1)
    have HK1 := Lib.hid (HK0.out.keep hb1)
    have HW1 := Lib.hid (behind HW0.out hb1)
    clear hp1 hb1
    obtain ⟨xb0, xb1, xb2, xb3⟩ := HB1.out.box
    cases b1 with
    | false =>
      go_wp2_with fail
      go_ret
      exact .no HW1.out
    | true =>
      obtain ⟨k0, rfl⟩ := one_of HN.out (HP1.out (by simp))
      obtain rfl := HP1.out (by simp)
      obtain ⟨b, off, kd0, tx0, nm0, a0, n0, cap0, rfl, hx⟩ := HK1.out.one
      have HX1 := Lib.hid hx
      clear hx
      clear xb0 xb1 xb2 xb3
      obtain ⟨xb0, xb1, xb2, xb3⟩ := HB1.out.box
      obtain ⟨xX0, xX1, xX2, xX3⟩ := HX1.out.cells
      go_wp2_with fail
      refine (HTY.out.at HX1.out HT1.out (HD.out k0 (by simp))).mono ?_
      rintro e w2 ⟨b2, rfl, hp2, hb2⟩
      have HP2 := Lib.hid hp2
      have HB2 := Lib.hid (HB1.out.keep hb2)
      have HT2 := Lib.hid (HT1.out.keep hb2)
      have HX2 := Lib.hid (HX1.out.keep hb2)
      have HW2 := Lib.hid (behind HW1.out hb2)
      clear hp2 hb2
      clear xb0 xb1 xb2 xb3 xX0 xX1 xX2 xX3
      obtain ⟨xb0, xb1, xb2, xb3⟩ := HB2.out.box
      obtain ⟨xX0, xX1, xX2, xX3⟩ := HX2.out.cells
      cases b2 with
      | false =>
        go_wp2_with fail
        go_ret
        exact .no HW2.out
      | true =>
        go_wp2_with fail
        refine ((isReference_any d).at HX2.out HT2.out (HD.out k0 (by simp))).mono ?_
        rintro e w3 ⟨b3, rfl, hp3, hb3⟩
        have HP3 := Lib.hid hp3
        have HB3 := Lib.hid (HB2.out.keep hb3)
        have HT3 := Lib.hid (HT2.out.keep hb3)
        have HX3 := Lib.hid (HX2.out.keep hb3)
        have HW3 := Lib.hid (behind HW2.out hb3)
        clear hp3 hb3
        clear xb0 xb1 xb2 xb3 xX0 xX1 xX2 xX3
        obtain ⟨xb0, xb1, xb2, xb3⟩ := HB3.out.box
        obtain ⟨xX0, xX1, xX2, xX3⟩ := HX3.out.cells
        go_wp2_with fail
        all_goals (go_ret; exact .yes (.one (memK qPointerType (by simp [oneK])) (HP2.out (by simp))) HW3.out)
  rcases bt (kind.toList == [82, 101, 102, 101, 114, 101, 110, 99, 101, 84, 121, 112, 101]) with qReferenceType | qReferenceType
  · go_enter Tryz.func38, Tryz.ntmps38
    go_wp2_with fail
    refine (plain_any _ _ _ _ _ _ 1 _).mono ?_
    rintro e w1 ⟨b1, rfl, hp1, hb1⟩
    have HP1 := Lib.hid hp1
    have HB1 := Lib.hid (HB0.out.keep hb1)
    have HT1 := Lib.hid (HT0.out.keep hb1)
    have HK1 := Lib.hid (HK0.out.keep hb1)
    have HW1 := Lib.hid (behind HW0.out hb1)
    clear hp1 hb1
    obtain ⟨xb0, xb1, xb2, xb3⟩ := HB1.out.box
    cases b1 with
    | false =>
      go_wp2_with fail
      go_ret
      exact .no HW1.out
    | true =>
      obtain ⟨k0, rfl⟩ := one_of HN.out (HP1.out (by simp))
      obtain rfl := HP1.out (by simp)
      obtain ⟨b, off, kd0, tx0, nm0, a0, n0, cap0, rfl, hx⟩ := HK1.out.one
      have HX1 := Lib.hid hx
      clear hx
      clear xb0 xb1 xb2 xb3
      obtain ⟨xb0, xb1, xb2, xb3⟩ := HB1.out.box
      obtain ⟨xX0, xX1, xX2, xX3⟩ := HX1.out.cells
      go_wp2_with fail
      refine (HTY.out.at HX1.out HT1.out (HD.out k0 (by simp))).mono ?_
      rintro e w2 ⟨b2, rfl, hp2, hb2⟩
      have HP2 := Lib.hid hp2
      have HB2 := Lib.hid (HB1.out.keep hb2)
      have HT2 := Lib.hid (HT1.out.keep hb2)
      have HX2 := Lib.hid (HX1.out.keep hb2)
      have HW2 := Lib.hid (behind HW1.out hb2)
      clear hp2 hb2
      clear xb0 xb1 xb2 xb3 xX0 xX1 xX2 xX3
      obtain ⟨xb0, xb1, xb2, xb3⟩ := HB2.out.box
      obtain ⟨xX0, xX1, xX2, xX3⟩ := HX2.out.cells
      cases b2 with
      | false =>
        go_wp2_with fail
        go_ret
        exact .no HW2.out
      | true =>
        go_wp2_with fail
        refine ((isReference_any d).at HX2.out HT2.out (HD.out k0 (by simp))).mono ?_
        rintro e w3 ⟨b3, rfl, hp3, hb3⟩
        have HP3 := Lib.hid hp3
        have HB3 := Lib.hid (HB2.out.keep hb3)
        have HT3 := Lib.hid (HT2.out.keep hb3)
        have HX3 := Lib.hid (HX2.out.keep hb3)
        have HW3 := Lib.hid (behind HW2.out hb3)
        clear hp3 hb3
        clear xb0 xb1 xb2 xb3 xX0 xX1 xX2 xX3
        obtain ⟨xb0, xb1, xb2, xb3⟩ := HB3.out.box
        obtain ⟨xX0, xX1, xX2, xX3⟩ := HX3.out.cells
        cases b3 with
        | true =>
          go_wp2_with fail
          go_ret
          exact .no HW3.out
        | false =>
          go_wp2_with fail
          refine ((isVoid_any d).at HX3.out HT3.out (HD.out k0 (by simp))).mono ?_
          rintro e w4 ⟨b4, rfl, hp4, hb4⟩
          have HP4 := Lib.hid hp4
          have HB4 := Lib.hid (HB3.out.keep hb4)
          have HT4 := Lib.hid (HT3.out.keep hb4)
          have HX4 := Lib.hid (HX3.out.keep hb4)
          have HW4 := Lib.hid (behind HW3.out hb4)
          clear hp4 hb4
          clear xb0 xb1 xb2 xb3 xX0 xX1 xX2 xX3
          obtain ⟨xb0, xb1, xb2, xb3⟩ := HB4.out.box
          obtain ⟨xX0, xX1, xX2, xX3⟩ := HX4.out.cells
          go_wp2_with fail
          all_goals (go_ret; exact .yes (.one (memK qReferenceType (by simp [oneK])) (HP2.out (by simp))) HW4.out)
  rcases bt (kind.toList == [82, 118, 97, 108, 117, 101, 82, 101, 102, 101, 114, 101, 110, 99, 101, 84, 121, 112, 101]) with qRvalueReferenceType | qRvalueReferenceType
  · go_enter Tryz.func38, Tryz.ntmps38
    go_wp2_with fail
    refine (plain_any _ _ _ _ _ _ 1 _).mono ?_
    rintro e w1 ⟨b1, rfl, hp1, hb1⟩
    have HP1 := Lib.hid hp1
    have HB1 := Lib.hid (HB0.out.keep hb1)
    have HT1 := Lib.hid (HT0.out.keep hb1)
    have HK1 := Lib.hid (HK0.out.keep hb1)
    have HW1 := Lib.hid (behind HW0.out hb1)
    clear hp1 hb1
    obtain ⟨xb0, xb1, xb2, xb3⟩ := HB1.out.box
    cases b1 with
    | false =>
      go_wp2_with fail
      go_ret
      exact .no HW1.out
    | true =>
      obtain ⟨k0, rfl⟩ := one_of HN.out (HP1.out (by simp))
      obtain rfl := HP1.out (by simp)
      obtain ⟨b, off, kd0, tx0, nm0, a0, n0, cap0, rfl, hx⟩ := HK1.out.one
      have HX1 := Lib.hid hx
      clear hx
      clear xb0 xb1 xb2 xb3
      obtain ⟨xb0, xb1, xb2, xb3⟩ := HB1.out.box
      obtain ⟨xX0, xX1, xX2, xX3⟩ := HX1.out.cells
      go_wp2_with fail
      refine (HTY.out.at HX1.out HT1.out (HD.out k0 (by simp))).mono ?_
      rintro e w2 ⟨b2, rfl, hp2, hb2⟩
      have HP2 := Lib.hid hp2
      have HB2 := Lib.hid (HB1.out.keep hb2)
      have HT2 := Lib.hid (HT1.out.keep hb2)
      have HX2 := Lib.hid (HX1.out.keep hb2)
      have HW2 := Lib.hid (behind HW1.out hb2)
      clear hp2 hb2
      clear xb0 xb1 xb2 xb3 xX0 xX1 xX2 xX3
      obtain ⟨xb0, xb1, xb2, xb3⟩ := HB2.out.box
      obtain ⟨xX0, xX1, xX2, xX3⟩ := HX2.out.cells
      cases b2 with
      | false =>
        go_wp2_with fail
        go_ret
        exact .no HW2.out
      | true =>
        go_wp2_with fail
        refine ((isReference_any d).at HX2.out HT2.out (HD.out k0 (by simp))).mono ?_
        rintro e w3 ⟨b3, rfl, hp3, hb3⟩
        have HP3 := Lib.hid hp3
        have HB3 := Lib.hid (HB2.out.keep hb3)
        have HT3 := Lib.hid (HT2.out.keep hb3)
        have HX3 := Lib.hid (HX2.out.keep hb3)
        have HW3 := Lib.hid (behind HW2.out hb3)
        clear hp3 hb3
        clear xb0 xb1 xb2 xb3 xX0 xX1 xX2 xX3
        obtain ⟨xb0, xb1, xb2, xb3⟩ := HB3.out.box
        obtain ⟨xX0, xX1, xX2, xX3⟩ := HX3.out.cells
        cases b3 with
        | true =>
          go_wp2_with fail
          go_ret
          exact .no HW3.out
        | false =>
          go_wp2_with fail
          refine ((isVoid_any d).at HX3.out HT3.out (HD.out k0 (by simp))).mono ?_
          rintro e w4 ⟨b4, rfl, hp4, hb4⟩
          have HP4 := Lib.hid hp4
          have HB4 := Lib.hid (HB3.out.keep hb4)
          have HT4 := Lib.hid (HT3.out.keep hb4)
          have HX4 := Lib.hid (HX3.out.keep hb4)
          have HW4 := Lib.hid (behind HW3.out hb4)
          clear hp4 hb4
          clear xb0 xb1 xb2 xb3 xX0 xX1 xX2 xX3
          obtain ⟨xb0, xb1, xb2, xb3⟩ := HB4.out.box
          obtain ⟨xX0, xX1, xX2, xX3⟩ := HX4.out.cells
          go_wp2_with fail
          all_goals (go_ret; exact .yes (.one (memK qRvalueReferenceType (by simp [oneK])) (HP2.out (by simp))) HW4.out)
  rcases bt (kind.toList == [84, 121, 112, 101, 87, 105, 116, 104, 81, 117, 97, 108, 105, 102, 105, 101, 114, 115]) with qTypeWithQualifiers | qTypeWithQualifiers
  · have ek := eq_list qTypeWithQualifiers
    subst ek
    by_cases hpl : text.toList.isEmpty = true ∧ num = 0 ∧ n = 2
    rotate_left
    · exact isType_twq_no _ _ _ _ _ _ _ _ HH.out hpl
    obtain ⟨hpe, rfl, rfl⟩ := hpl
    rcases bt ((kids.getD 0 default).kind.toList == [80, 111, 105, 110, 116, 101, 114, 84, 121, 112, 101]) with qp | qp
    · exact isType_twq_ptr d HTY.out _ _ _ _ _ HH.out HTT.out HDT.out hpe qp
    · exact isType_twq_other d HTY.out _ _ _ _ _ HH.out HTT.out HDT.out hpe qp
  rcases bt (kind.toList == [67, 111, 109, 112, 108, 101, 120, 84, 121, 112, 101]) with qComplexType | qComplexType
  · go_enter Tryz.func38, Tryz.ntmps38
    go_wp2_with fail
    refine (plain_any _ _ _ _ _ _ 1 _).mono ?_
    rintro e w1 ⟨b1, rfl, hp1, hb1⟩
    have HP1 := Lib.hid hp1
    have HB1 := Lib.hid (HB0.out.keep hb1)
    have HT1 := Lib.hid (HT0.out.keep hb1)
    have HK1 := Lib.hid (HK0.out.keep hb1)
    have HW1 := Lib.hid (behind HW0.out hb1)
    clear hp1 hb1
    obtain ⟨xb0, xb1, xb2, xb3⟩ := HB1.out.box
    cases b1 with
    | false =>
      go_wp2_with fail
      go_ret
      exact .no HW1.out
    | true =>
      obtain ⟨k0, rfl⟩ := one_of HN.out (HP1.out (by simp))
      obtain rfl := HP1.out (by simp)
      obtain ⟨b, off, kd0, tx0, nm0, a0, n0, cap0, rfl, hx⟩ := HK1.out.one
      have HX1 := Lib.hid hx
      clear hx
      clear xb0 xb1 xb2 xb3
      obtain ⟨xb0, xb1, xb2, xb3⟩ := HB1.out.box
      obtain ⟨xX0, xX1, xX2, xX3⟩ := HX1.out.cells
      go_wp2_with fail
      refine (HFL.out.at HX1.out HT1.out (HD.out k0 (by simp))).mono ?_
      rintro e w2 ⟨b2, rfl, hp2, hb2⟩
      have HP2 := Lib.hid hp2
      have HB2 := Lib.hid (HB1.out.keep hb2)
      have HT2 := Lib.hid (HT1.out.keep hb2)
      have HX2 := Lib.hid (HX1.out.keep hb2)
      have HW2 := Lib.hid (behind HW1.out hb2)
      clear hp2 hb2
      clear xb0 xb1 xb2 xb3 xX0 xX1 xX2 xX3
      obtain ⟨xb0, xb1, xb2, xb3⟩ := HB2.out.box
      obtain ⟨xX0, xX1, xX2, xX3⟩ := HX2.out.cells
      cases b2 with
      | false =>
        go_wp2_with fail
        go_ret
        exact .no HW2.out
      | true =>
        go_wp2_with fail
        go_ret
        exact .yes (.one (memK qComplexType (by simp [oneK])) (HP2.out (by simp))) HW2.out
  rcases bt (kind.toList == [73, 109, 97, 103, 105, 110, 97, 114, 121, 84, 121, 112, 101]) with qImaginaryType | qImaginaryType
  · go_enter Tryz.func38, Tryz.ntmps38
    go_wp2_with fail
    refine (plain_any _ _ _ _ _ _ 1 _).mono ?_
    rintro e w1 ⟨b1, rfl, hp1, hb1⟩
    have HP1 := Lib.hid hp1
    have HB1 := Lib.hid (HB0.out.keep hb1)
    have HT1 := Lib.hid (HT0.out.keep hb1)
    have HK1 := Lib.hid (HK0.out.keep hb1)
    have HW1 := Lib.hid (behind HW0.out hb1)
    clear hp1 hb1
    obtain ⟨xb0, xb1, xb2, xb3⟩ := HB1.out.box
    cases b1 with
    | false =>
      go_wp2_with fail
      go_ret
      exact .no HW1.out
    | true =>
      obtain ⟨k0, rfl⟩ := one_of HN.out (HP1.out (by simp))
      obtain rfl := HP1.out (by simp)
      obtain ⟨b, off, kd0, tx0, nm0, a0, n0, cap0, rfl, hx⟩ := HK1.out.one
      have HX1 := Lib.hid hx
      clear hx
      clear xb0 xb1 xb2 xb3
      obtain ⟨xb0, xb1, xb2, xb3⟩ := HB1.out.box
      obtain ⟨xX0, xX1, xX2, xX3⟩ := HX1.out.cells
      go_wp2_with fail
      refine (HFL.out.at HX1.out HT1.out (HD.out k0 (by simp))).mono ?_
      rintro e w2 ⟨b2, rfl, hp2, hb2⟩
      have HP2 := Lib.hid hp2
      have HB2 := Lib.hid (HB1.out.keep hb2)
      have HT2 := Lib.hid (HT1.out.keep hb2)
      have HX2 := Lib.hid (HX1.out.keep hb2)
      have HW2 := Lib.hid (behind HW1.out hb2)
      clear hp2 hb2
      clear xb0 xb1 xb2 xb3 xX0 xX1 xX2 xX3
      obtain ⟨xb0, xb1, xb2, xb3⟩ := HB2.out.box
      obtain ⟨xX0, xX1, xX2, xX3⟩ := HX2.out.cells
      cases b2 with
      | false =>
        go_wp2_with fail
        go_ret
        exact .no HW2.out
      | true =>
        go_wp2_with fail
        go_ret
        exact .yes (.one (memK qImaginaryType (by simp [oneK])) (HP2.out (by simp))) HW2.out
  rcases bt (kind.toList == [70, 117, 110, 99, 116, 105, 111, 110, 84, 121, 112, 101]) with qFunctionType | qFunctionType
  · go_enter Tryz.func38, Tryz.ntmps38
    go_wp2_with fail
    refine (HFT.out.at HB0.out HT0.out HDT.out).mono ?_
    rintro e w1 ⟨b1, rfl, hp1, hb1⟩
    have HP1 := Lib.hid hp1
    have HB1 := Lib.hid (HB0.out.keep hb1)
    have HT1 := Lib.hid (HT0.out.keep hb1)
    have HK1 := Lib.hid (HK0.out.keep hb1)
    have HW1 := Lib.hid (behind HW0.out hb1)
    clear hp1 hb1
    obtain ⟨xb0, xb1, xb2, xb3⟩ := HB1.out.box
    cases b1 with
    | false =>
      go_wp2_with fail
      go_ret
      exact .no HW1.out
    | true =>
      go_wp2_with fail
      go_ret
      exact .yes (HP1.out (by simp)) HW1.out
  rcases bt (kind.toList == [65, 114, 114, 97, 121, 84, 121, 112, 101]) with qArrayType | qArrayType
  · go_enter Tryz.func38, Tryz.ntmps38
    go_wp2_with fail
    refine (plain_any _ _ _ _ _ _ 2 _).mono ?_
    rintro e w1 ⟨b1, rfl, hp1, hb1⟩
    have HP1 := Lib.hid hp1
    have HB1 := Lib.hid (HB0.out.keep hb1)
    have HT1 := Lib.hid (HT0.out.keep hb1)
    have HK1 := Lib.hid (HK0.out.keep hb1)
    have HW1 := Lib.hid (behind HW0.out hb1)
    clear hp1 hb1
    obtain ⟨xb0, xb1, xb2, xb3⟩ := HB1.out.box
    cases b1 with
    | false =>
      go_wp2_with fail
      go_ret
      exact .no HW1.out
    | true =>
      obtain ⟨k0, k1, rfl⟩ := two_of HN.out (HP1.out (by simp))
      obtain rfl := HP1.out (by simp)
      obtain ⟨b, off, kd0, tx0, nm0, a0, n0, cap0, kd1, tx1, nm1, a1, n1, cap1, rfl, hx, hy⟩ := HK1.out.two
      have HX1 := Lib.hid hx
      have HY1 := Lib.hid hy
      clear hx hy
      clear xb0 xb1 xb2 xb3
      obtain ⟨xb0, xb1, xb2, xb3⟩ := HB1.out.box
      obtain ⟨xX0, xX1, xX2, xX3⟩ := HX1.out.cells
      obtain ⟨xY0, xY1, xY2, xY3⟩ := HY1.out.cells
      go_wp2_with fail
      refine ((isNumber_any d).at HX1.out HT1.out (HD.out k0 (by simp))).mono ?_
      rintro e w2 ⟨b2, rfl, hp2, hb2⟩
      have HP2 := Lib.hid hp2
      have HB2 := Lib.hid (HB1.out.keep hb2)
      have HT2 := Lib.hid (HT1.out.keep hb2)
      have HX2 := Lib.hid (HX1.out.keep hb2)
      have HY2 := Lib.hid (HY1.out.keep hb2)
      have HW2 := Lib.hid (behind HW1.out hb2)
      clear hp2 hb2
      clear xb0 xb1 xb2 xb3 xX0 xX1 xX2 xX3 xY0 xY1 xY2 xY3
      obtain ⟨xb0, xb1, xb2, xb3⟩ := HB2.out.box
      obtain ⟨xX0, xX1, xX2, xX3⟩ := HX2.out.cells
      obtain ⟨xY0, xY1, xY2, xY3⟩ := HY2.out.cells
      cases b2 with
      | false =>
        go_wp2_with fail
        go_ret
        exact .no HW2.out
      | true =>
        go_wp2_with fail
        refine (HOB.out.at HY2.out HT2.out (HD.out k1 (by simp))).mono ?_
        rintro e w3 ⟨b3, rfl, hp3, hb3⟩
        have HP3 := Lib.hid hp3
        have HB3 := Lib.hid (HB2.out.keep hb3)
        have HT3 := Lib.hid (HT2.out.keep hb3)
        have HX3 := Lib.hid (HX2.out.keep hb3)
        have HY3 := Lib.hid (HY2.out.keep hb3)
        have HW3 := Lib.hid (behind HW2.out hb3)
        clear hp3 hb3
        clear xb0 xb1 xb2 xb3 xX0 xX1 xX2 xX3 xY0 xY1 xY2 xY3
        obtain ⟨xb0, xb1, xb2, xb3⟩ := HB3.out.box
        obtain ⟨xX0, xX1, xX2, xX3⟩ := HX3.out.cells
        obtain ⟨xY0, xY1, xY2, xY3⟩ := HY3.out.cells
        cases b3 with
        | false =>
          go_wp2_with fail
          go_ret
          exact .no HW3.out
        | true =>
          go_wp2_with fail
          go_ret
          exact .yes (.two (memK qArrayType (by simp [twoK])) (HP2.out (by simp)) (HP3.out (by simp))) HW3.out
  rcases bt (kind.toList == [80, 116, 114, 77, 101, 109]) with qPtrMem | qPtrMem
  · go_enter Tryz.func38, Tryz.ntmps38
    go_wp2_with fail
    refine (plain_any _ _ _ _ _ _ 2 _).mono ?_
    rintro e w1 ⟨b1, rfl, hp1, hb1⟩
    have HP1 := Lib.hid hp1
    have HB1 := Lib.hid (HB0.out.keep hb1)
    have HT1 := Lib.hid (HT0.out.keep hb1)
    have HK1 := Lib.hid (HK0.out.keep hb1)
    have HW1 := Lib.hid (behind HW0.out hb1)
    clear hp1 hb1
    obtain ⟨xb0, xb1, xb2, xb3⟩ := HB1.out.box
    cases b1 with
    | false =>
      go_wp2_with fail
      go_ret
      exact .no HW1.out
    | true =>
      obtain ⟨k0, k1, rfl⟩ := two_of HN.out (HP1.out (by simp))
      obtain rfl := HP1.out (by simp)
      obtain ⟨b, off, kd0, tx0, nm0, a0, n0, cap0, kd1, tx1, nm1, a1, n1, cap1, rfl, hx, hy⟩ := HK1.out.two
      have HX1 := Lib.hid hx
      have HY1 := Lib.hid hy
      clear hx hy
      clear xb0 xb1 xb2 xb3
      obtain ⟨xb0, xb1, xb2, xb3⟩ := HB1.out.box
      obtain ⟨xX0, xX1, xX2, xX3⟩ := HX1.out.cells
      obtain ⟨xY0, xY1, xY2, xY3⟩ := HY1.out.cells
      go_wp2_with fail
      refine (HC.out.at HX1.out HT1.out (HD.out k0 (by simp))).mono ?_
      rintro e w2 ⟨b2, rfl, hp2, hb2⟩
      have HP2 := Lib.hid hp2
      have HB2 := Lib.hid (HB1.out.keep hb2)
      have HT2 := Lib.hid (HT1.out.keep hb2)
      have HX2 := Lib.hid (HX1.out.keep hb2)
      have HY2 := Lib.hid (HY1.out.keep hb2)
      have HW2 := Lib.hid (behind HW1.out hb2)
      clear hp2 hb2
      clear xb0 xb1 xb2 xb3 xX0 xX1 xX2 xX3 xY0 xY1 xY2 xY3
      obtain ⟨xb0, xb1, xb2, xb3⟩ := HB2.out.box
      obtain ⟨xX0, xX1, xX2, xX3⟩ := HX2.out.cells
      obtain ⟨xY0, xY1, xY2, xY3⟩ := HY2.out.cells
      cases b2 with
      | false =>
        go_wp2_with fail
        go_ret
        exact .no HW2.out
      | true =>
        go_wp2_with fail
        refine (HMB.out.at HY2.out HT2.out (HD.out k1 (by simp))).mono ?_
        rintro e w3 ⟨b3, rfl, hp3, hb3⟩
        have HP3 := Lib.hid hp3
        have HB3 := Lib.hid (HB2.out.keep hb3)
        have HT3 := Lib.hid (HT2.out.keep hb3)
        have HX3 := Lib.hid (HX2.out.keep hb3)
        have HY3 := Lib.hid (HY2.out.keep hb3)
        have HW3 := Lib.hid (behind HW2.out hb3)
        clear hp3 hb3
        clear xb0 xb1 xb2 xb3 xX0 xX1 xX2 xX3 xY0 xY1 xY2 xY3
        obtain ⟨xb0, xb1, xb2, xb3⟩ := HB3.out.box
        obtain ⟨xX0, xX1, xX2, xX3⟩ := HX3.out.cells
        obtain ⟨xY0, xY1, xY2, xY3⟩ := HY3.out.cells
        cases b3 with
        | false =>
          go_wp2_with fail
          go_ret
          exact .no HW3.out
        | true =>
          go_wp2_with fail
          go_ret
          exact .yes (.two (memK qPtrMem (by simp [twoK])) (HP2.out (by simp)) (HP3.out (by simp))) HW3.out
  rcases bt (kind.toList == [86, 101, 99, 116, 111, 114, 84, 121, 112, 101]) with qVectorType | qVectorType
  · go_enter Tryz.func38, Tryz.ntmps38
    go_wp2_with fail
    refine (plain_any _ _ _ _ _ _ 2 _).mono ?_
    rintro e w1 ⟨b1, rfl, hp1, hb1⟩
    have HP1 := Lib.hid hp1
    have HB1 := Lib.hid (HB0.out.keep hb1)
    have HT1 := Lib.hid (HT0.out.keep hb1)
    have HK1 := Lib.hid (HK0.out.keep hb1)
    have HW1 := Lib.hid (behind HW0.out hb1)
    clear hp1 hb1
    obtain ⟨xb0, xb1, xb2, xb3⟩ := HB1.out.box
    cases b1 with
    | false =>
      go_wp2_with fail
      go_ret
      exact .no HW1.out
    | true =>
      obtain ⟨k0, k1, rfl⟩ := two_of HN.out (HP1.out (by simp))
      obtain rfl := HP1.out (by simp)
      obtain ⟨b, off, kd0, tx0, nm0, a0, n0, cap0, kd1, tx1, nm1, a1, n1, cap1, rfl, hx, hy⟩ := HK1.out.two
      have HX1 := Lib.hid hx
      have HY1 := Lib.hid hy
      clear hx hy
      clear xb0 xb1 xb2 xb3
      obtain ⟨xb0, xb1, xb2, xb3⟩ := HB1.out.box
      obtain ⟨xX0, xX1, xX2, xX3⟩ := HX1.out.cells
      obtain ⟨xY0, xY1, xY2, xY3⟩ := HY1.out.cells
      go_wp2_with fail
      refine ((isNumber_any d).at HX1.out HT1.out (HD.out k0 (by simp))).mono ?_
      rintro e w2 ⟨b2, rfl, hp2, hb2⟩
      have HP2 := Lib.hid hp2
      have HB2 := Lib.hid (HB1.out.keep hb2)
      have HT2 := Lib.hid (HT1.out.keep hb2)
      have HX2 := Lib.hid (HX1.out.keep hb2)
      have HY2 := Lib.hid (HY1.out.keep hb2)
      have HW2 := Lib.hid (behind HW1.out hb2)
      clear hp2 hb2
      clear xb0 xb1 xb2 xb3 xX0 xX1 xX2 xX3 xY0 xY1 xY2 xY3
      obtain ⟨xb0, xb1, xb2, xb3⟩ := HB2.out.box
      obtain ⟨xX0, xX1, xX2, xX3⟩ := HX2.out.cells
      obtain ⟨xY0, xY1, xY2, xY3⟩ := HY2.out.cells
      cases b2 with
      | false =>
        go_wp2_with fail
        go_ret
        exact .no HW2.out
      | true =>
        rcases bt (kd1.toList == [66, 117, 105, 108, 116, 105, 110, 84, 121, 112, 101]) with qfBuiltinType | qfBuiltinType
        · go_wp2_with fail
          refine (HOB.out.at HY2.out HT2.out (HD.out k1 (by simp))).mono ?_
          rintro e w3 ⟨b3, rfl, hp3, hb3⟩
          have HP3 := Lib.hid hp3
          have HB3 := Lib.hid (HB2.out.keep hb3)
          have HT3 := Lib.hid (HT2.out.keep hb3)
          have HX3 := Lib.hid (HX2.out.keep hb3)
          have HY3 := Lib.hid (HY2.out.keep hb3)
          have HW3 := Lib.hid (behind HW2.out hb3)
          clear hp3 hb3
          clear xb0 xb1 xb2 xb3 xX0 xX1 xX2 xX3 xY0 xY1 xY2 xY3
          obtain ⟨xb0, xb1, xb2, xb3⟩ := HB3.out.box
          obtain ⟨xX0, xX1, xX2, xX3⟩ := HX3.out.cells
          obtain ⟨xY0, xY1, xY2, xY3⟩ := HY3.out.cells
          cases b3 with
          | false =>
            go_wp2_with fail
            go_ret
            exact .no HW3.out
          | true =>
            go_wp2_with fail
            go_ret
            exact .yes (.two (memK qVectorType (by simp [twoK])) (HP2.out (by simp)) (HP3.out (by simp))) HW3.out
        · go_wp2_with fail
          all_goals (go_ret; exact .no HW2.out)
  rcases bt (kind.toList == [86, 101, 110, 100, 111, 114, 81, 117, 97, 108, 105, 102, 105, 101, 114]) with qVendorQualifier | qVendorQualifier
  · go_enter Tryz.func38, Tryz.ntmps38
    go_wp2_with fail
    refine (plain_any _ _ _ _ _ _ 2 _).mono ?_
    rintro e w1 ⟨b1, rfl, hp1, hb1⟩
    have HP1 := Lib.hid hp1
    have HB1 := Lib.hid (HB0.out.keep hb1)
    have HT1 := Lib.hid (HT0.out.keep hb1)
    have HK1 := Lib.hid (HK0.out.keep hb1)
    have HW1 := Lib.hid (behind HW0.out hb1)
    clear hp1 hb1
    obtain ⟨xb0, xb1, xb2, xb3⟩ := HB1.out.box
    cases b1 with
    | false =>
      go_wp2_with fail
      go_ret
      exact .no HW1.out
    | true =>
      obtain ⟨k0, k1, rfl⟩ := two_of HN.out (HP1.out (by simp))
      obtain rfl := HP1.out (by simp)
      obtain ⟨b, off, kd0, tx0, nm0, a0, n0, cap0, kd1, tx1, nm1, a1, n1, cap1, rfl, hx, hy⟩ := HK1.out.two
      have HX1 := Lib.hid hx
      have HY1 := Lib.hid hy
      clear hx hy
      clear xb0 xb1 xb2 xb3
      obtain ⟨xb0, xb1, xb2, xb3⟩ := HB1.out.box
      obtain ⟨xX0, xX1, xX2, xX3⟩ := HX1.out.cells
      obtain ⟨xY0, xY1, xY2, xY3⟩ := HY1.out.cells
      go_wp2_with fail
      refine ((isName_any d).at HX1.out HT1.out (HD.out k0 (by simp))).mono ?_
      rintro e w2 ⟨b2, rfl, hp2, hb2⟩
      have HP2 := Lib.hid hp2
      have HB2 := Lib.hid (HB1.out.keep hb2)
      have HT2 := Lib.hid (HT1.out.keep hb2)
      have HX2 := Lib.hid (HX1.out.keep hb2)
      have HY2 := Lib.hid (HY1.out.keep hb2)
      have HW2 := Lib.hid (behind HW1.out hb2)
      clear hp2 hb2
      clear xb0 xb1 xb2 xb3 xX0 xX1 xX2 xX3 xY0 xY1 xY2 xY3
      obtain ⟨xb0, xb1, xb2, xb3⟩ := HB2.out.box
      obtain ⟨xX0, xX1, xX2, xX3⟩ := HX2.out.cells
      obtain ⟨xY0, xY1, xY2, xY3⟩ := HY2.out.cells
      cases b2 with
      | false =>
        go_wp2_with fail
        go_ret
        exact .no HW2.out
      | true =>
        rcases bt (kd1.toList == [66, 117, 105, 108, 116, 105, 110, 84, 121, 112, 101]) with qfBuiltinType | qfBuiltinType
        · go_wp2_with fail
          refine (HOB.out.at HY2.out HT2.out (HD.out k1 (by simp))).mono ?_
          rintro e w3 ⟨b3, rfl, hp3, hb3⟩
          have HP3 := Lib.hid hp3
          have HB3 := Lib.hid (HB2.out.keep hb3)
          have HT3 := Lib.hid (HT2.out.keep hb3)
          have HX3 := Lib.hid (HX2.out.keep hb3)
          have HY3 := Lib.hid (HY2.out.keep hb3)
          have HW3 := Lib.hid (behind HW2.out hb3)
          clear hp3 hb3
          clear xb0 xb1 xb2 xb3 xX0 xX1 xX2 xX3 xY0 xY1 xY2 xY3
          obtain ⟨xb0, xb1, xb2, xb3⟩ := HB3.out.box
          obtain ⟨xX0, xX1, xX2, xX3⟩ := HX3.out.cells
          obtain ⟨xY0, xY1, xY2, xY3⟩ := HY3.out.cells
          cases b3 with
          | true =>
            go_wp2_with fail
            go_ret
            exact .yes (.two (memK qVendorQualifier (by simp [twoK])) (HP2.out (by simp)) (HP3.out (by simp))) HW3.out
          | false =>
            go_wp2_with fail
            refine (HC.out.at HY3.out HT3.out (HD.out k1 (by simp))).mono ?_
            rintro e w4 ⟨b4, rfl, hp4, hb4⟩
            have HP4 := Lib.hid hp4
            have HB4 := Lib.hid (HB3.out.keep hb4)
            have HT4 := Lib.hid (HT3.out.keep hb4)
            have HX4 := Lib.hid (HX3.out.keep hb4)
            have HY4 := Lib.hid (HY3.out.keep hb4)
            have HW4 := Lib.hid (behind HW3.out hb4)
            clear hp4 hb4
            clear xb0 xb1 xb2 xb3 xX0 xX1 xX2 xX3 xY0 xY1 xY2 xY3
            obtain ⟨xb0, xb1, xb2, xb3⟩ := HB4.out.box
            obtain ⟨xX0, xX1, xX2, xX3⟩ := HX4.out.cells
            obtain ⟨xY0, xY1, xY2, xY3⟩ := HY4.out.cells
            cases b4 with
            | false =>
              go_wp2_with fail
              go_ret
              exact .no HW4.out
            | true =>
              go_wp2_with fail
              go_ret
              exact .yes (.two (memK qVendorQualifier (by simp [twoK])) (HP2.out (by simp)) (HP4.out (by simp))) HW4.out
        · go_wp2_with fail
          refine (HC.out.at HY2.out HT2.out (HD.out k1 (by simp))).mono ?_
          rintro e w3 ⟨b3, rfl, hp3, hb3⟩
          have HP3 := Lib.hid hp3
          have HB3 := Lib.hid (HB2.out.keep hb3)
          have HT3 := Lib.hid (HT2.out.keep hb3)
          have HX3 := Lib.hid (HX2.out.keep hb3)
          have HY3 := Lib.hid (HY2.out.keep hb3)
          have HW3 := Lib.hid (behind HW2.out hb3)
          clear hp3 hb3
          clear xb0 xb1 xb2 xb3 xX0 xX1 xX2 xX3 xY0 xY1 xY2 xY3
          obtain ⟨xb0, xb1, xb2, xb3⟩ := HB3.out.box
          obtain ⟨xX0, xX1, xX2, xX3⟩ := HX3.out.cells
          obtain ⟨xY0, xY1, xY2, xY3⟩ := HY3.out.cells
          cases b3 with
          | false =>
            go_wp2_with fail
            go_ret
            exact .no HW3.out
          | true =>
            go_wp2_with fail
            go_ret
            exact .yes (.two (memK qVendorQualifier (by simp [twoK])) (HP2.out (by simp)) (HP3.out (by simp))) HW3.out
  go_enter Tryz.func38, Tryz.ntmps38
  go_wp2_with fail
  go_ret
  exact .no HW0.out

end Go.Proofs.YtdlhhdhooacogaaGreatDoor

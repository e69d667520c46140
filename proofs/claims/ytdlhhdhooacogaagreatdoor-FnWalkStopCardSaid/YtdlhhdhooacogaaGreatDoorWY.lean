/-
  isFunctionName, Returns, inScope.
-/
import Derived.Test.YtdlhhdhooacogaaGreatDoorWX
namespace Go.Proofs.YtdlhhdhooacogaaGreatDoor
open Go.RowKit

set_option maxRecDepth 100000 in
set_option maxHeartbeats 8000000 in
theorem isFunctionName_any (d : Nat) : Wk 18 Good (d + 1) := by
  intro t kind text num a n cap w h ht hd
  have hcap := h.cap
  obtain ⟨kids, rfl, hz1, hz2, hn, hm, hk⟩ := h.kids
  have HD := Lib.hid (show ∀ k ∈ kids, Dep d k from hd)
  have HDT := Lib.hid hd
  have HZ1 := Lib.hid hz1
  have HZ2 := Lib.hid hz2
  have HM := Lib.hid hm
  unfold maxLen at hz1 hz2 hm
  have HB0 := Lib.hid (box_at h)
  have HT0 := Lib.hid (ht.keep (below_new w (.cells #[.string kind, .string text, .int .i64 num, .slice a n cap] 24)))
  have HK0 := Lib.hid (hk.keep (below_new w (.cells #[.string kind, .string text, .int .i64 num, .slice a n cap] 24)))
  have HW0 := Lib.hid (below_new w (.cells #[.string kind, .string text, .int .i64 num, .slice a n cap] 24))
  have HN := Lib.hid hn
  clear hk h ht hd hn
  clear hcap hz1 hz2 hm
  rcases bt (kind.toList == [84, 101, 109, 112, 108, 97, 116, 101]) with qTemplate | qTemplate
  · have HTM := Lib.hid (isTemplate_of d (types_any d).2.2)
    go_enter Tryz.func18, Tryz.ntmps18
    go_wp2_with fail
    refine (HTM.out.at HB0.out HT0.out HDT.out).mono ?_
    rintro e w1 ⟨b1, rfl, hp1, hb1⟩
    have HP1 := Lib.hid hp1
    have HB1 := Lib.hid (HB0.out.keep hb1)
    have HT1 := Lib.hid (HT0.out.keep hb1)
    have HK1 := Lib.hid (HK0.out.keep hb1)
    have HW1 := Lib.hid (behind HW0.out hb1)
    clear hp1 hb1
    obtain ⟨xb0, xb1, xb2, xb3⟩ := HB1.out.box
    cases b1 with
    | false =>
      go_wp2_with fail
      go_ret
      exact .no HW1.out
    | true =>
      obtain ⟨k0, ks, ek, hgs⟩ := HP1.out (by simp)
      simp [NT.kids] at ek
      subst ek
      have HGS := Lib.hid hgs
      clear hgs
      have hn1 : 0 < n := by have := HN.out; simp at this; omega
      obtain ⟨b, off, kd0, tx0, nm0, a0, n0, cap0, rfl, hx⟩ := HK1.out.one
      have HX1 := Lib.hid hx
      clear hx
      clear xb0 xb1 xb2 xb3
      obtain ⟨xb0, xb1, xb2, xb3⟩ := HB1.out.box
      obtain ⟨xX0, xX1, xX2, xX3⟩ := HX1.out.cells
      rcases bt (kd0.toList == [84, 101, 109, 112, 108, 97, 116, 101]) with qfTemplate | qfTemplate
      · go_wp2_with fail
        all_goals (go_ret; exact .no HW1.out)
      · go_wp2_with fail
        refine ((isStd_any d).at HX1.out HT1.out (HD.out k0 (by simp))).mono ?_
        rintro e w2 ⟨b2, rfl, hp2, hb2⟩
        have HP2 := Lib.hid hp2
        have HB2 := Lib.hid (HB1.out.keep hb2)
        have HT2 := Lib.hid (HT1.out.keep hb2)
        have HX2 := Lib.hid (HX1.out.keep hb2)
        have HW2 := Lib.hid (behind HW1.out hb2)
        clear hp2 hb2
        clear xb0 xb1 xb2 xb3 xX0 xX1 xX2 xX3
        obtain ⟨xb0, xb1, xb2, xb3⟩ := HB2.out.box
        obtain ⟨xX0, xX1, xX2, xX3⟩ := HX2.out.cells
        cases b2 with
        | true =>
          go_wp2_with fail
          go_ret
          exact .no HW2.out
        | false =>
          go_wp2_with fail
          refine ((isWord_any d).mono.at HX2.out HT2.out (HD.out k0 (by simp))).mono ?_
          rintro e w3 ⟨b3, rfl, hp3, hb3⟩
          have HP3 := Lib.hid hp3
          have HB3 := Lib.hid (HB2.out.keep hb3)
          have HT3 := Lib.hid (HT2.out.keep hb3)
          have HX3 := Lib.hid (HX2.out.keep hb3)
          have HW3 := Lib.hid (behind HW2.out hb3)
          clear hp3 hb3
          clear xb0 xb1 xb2 xb3 xX0 xX1 xX2 xX3
          obtain ⟨xb0, xb1, xb2, xb3⟩ := HB3.out.box
          obtain ⟨xX0, xX1, xX2, xX3⟩ := HX3.out.cells
          cases b3 with
          | true =>
            go_wp2_with fail
            go_ret
            exact .yes (.tmpl (eq_list qTemplate) (HP3.out (by simp)) HGS.out) HW3.out
          | false =>
            go_wp2_with fail
            refine ((isOperatorName_any d).mono.at HX3.out HT3.out (HD.out k0 (by simp))).mono ?_
            rintro e w4 ⟨b4, rfl, hp4, hb4⟩
            have HP4 := Lib.hid hp4
            have HB4 := Lib.hid (HB3.out.keep hb4)
            have HT4 := Lib.hid (HT3.out.keep hb4)
            have HX4 := Lib.hid (HX3.out.keep hb4)
            have HW4 := Lib.hid (behind HW3.out hb4)
            clear hp4 hb4
            clear xb0 xb1 xb2 xb3 xX0 xX1 xX2 xX3
            obtain ⟨xb0, xb1, xb2, xb3⟩ := HB4.out.box
            obtain ⟨xX0, xX1, xX2, xX3⟩ := HX4.out.cells
            cases b4 with
            | true =>
              go_wp2_with fail
              go_ret
              exact .yes (.tmpl (eq_list qTemplate) (HP4.out (by simp)) HGS.out) HW4.out
            | false =>
              go_wp2_with fail
              refine ((isMaker_any d).mono.at HX4.out HT4.out (HD.out k0 (by simp))).mono ?_
              rintro e w5 ⟨b5, rfl, hp5, hb5⟩
              have HP5 := Lib.hid hp5
              have HB5 := Lib.hid (HB4.out.keep hb5)
              have HT5 := Lib.hid (HT4.out.keep hb5)
              have HX5 := Lib.hid (HX4.out.keep hb5)
              have HW5 := Lib.hid (behind HW4.out hb5)
              clear hp5 hb5
              clear xb0 xb1 xb2 xb3 xX0 xX1 xX2 xX3
              obtain ⟨xb0, xb1, xb2, xb3⟩ := HB5.out.box
              obtain ⟨xX0, xX1, xX2, xX3⟩ := HX5.out.cells
              cases b5 with
              | false =>
                go_wp2_with fail
                go_ret
                exact .no HW5.out
              | true =>
                go_wp2_with fail
                go_ret
                exact .yes (.tmpl (eq_list qTemplate) (HP5.out (by simp)) HGS.out) HW5.out
  go_enter Tryz.func18, Tryz.ntmps18
  go_wp2_with fail
  refine ((isWord_any d).at HB0.out HT0.out HDT.out).mono ?_
  rintro e w1 ⟨b1, rfl, hp1, hb1⟩
  have HP1 := Lib.hid hp1
  have HB1 := Lib.hid (HB0.out.keep hb1)
  have HT1 := Lib.hid (HT0.out.keep hb1)
  have HK1 := Lib.hid (HK0.out.keep hb1)
  have HW1 := Lib.hid (behind HW0.out hb1)
  clear hp1 hb1
  obtain ⟨xb0, xb1, xb2, xb3⟩ := HB1.out.box
  cases b1 with
  | true =>
    go_wp2_with fail
    go_ret
    exact .yes (HP1.out (by simp)) HW1.out
  | false =>
    go_wp2_with fail
    refine ((isOperatorName_any d).at HB1.out HT1.out HDT.out).mono ?_
    rintro e w2 ⟨b2, rfl, hp2, hb2⟩
    have HP2 := Lib.hid hp2
    have HB2 := Lib.hid (HB1.out.keep hb2)
    have HT2 := Lib.hid (HT1.out.keep hb2)
    have HK2 := Lib.hid (HK1.out.keep hb2)
    have HW2 := Lib.hid (behind HW1.out hb2)
    clear hp2 hb2
    clear xb0 xb1 xb2 xb3
    obtain ⟨xb0, xb1, xb2, xb3⟩ := HB2.out.box
    cases b2 with
    | true =>
      go_wp2_with fail
      go_ret
      exact .yes (HP2.out (by simp)) HW2.out
    | false =>
      go_wp2_with fail
      refine ((isMaker_any d).at HB2.out HT2.out HDT.out).mono ?_
      rintro e w3 ⟨b3, rfl, hp3, hb3⟩
      have HP3 := Lib.hid hp3
      have HB3 := Lib.hid (HB2.out.keep hb3)
      have HT3 := Lib.hid (HT2.out.keep hb3)
      have HK3 := Lib.hid (HK2.out.keep hb3)
      have HW3 := Lib.hid (behind HW2.out hb3)
      clear hp3 hb3
      clear xb0 xb1 xb2 xb3
      obtain ⟨xb0, xb1, xb2, xb3⟩ := HB3.out.box
      cases b3 with
      | true =>
        go_wp2_with fail
        go_ret
        exact .yes (HP3.out (by simp)) HW3.out
      | false =>
        go_wp2_with fail
        refine ((isCast_any d).at HB3.out HT3.out HDT.out).mono ?_
        rintro e w4 ⟨b4, rfl, hp4, hb4⟩
        have HP4 := Lib.hid hp4
        have HB4 := Lib.hid (HB3.out.keep hb4)
        have HT4 := Lib.hid (HT3.out.keep hb4)
        have HK4 := Lib.hid (HK3.out.keep hb4)
        have HW4 := Lib.hid (behind HW3.out hb4)
        clear hp4 hb4
        clear xb0 xb1 xb2 xb3
        obtain ⟨xb0, xb1, xb2, xb3⟩ := HB4.out.box
        cases b4 with
        | false =>
          go_wp2_with fail
          go_ret
          exact .no HW4.out
        | true =>
          go_wp2_with fail
          go_ret
          exact .yes (HP4.out (by simp)) HW4.out

set_option maxRecDepth 100000 in
set_option maxHeartbeats 4000000 in
theorem returns_any (d : Nat) (t : NT) (kind text : ByteArray) (num : Int) (a : Option Addr) (n cap : Nat) (w : World) (h : NV w [.string kind, .string text, .int .i64 num, .slice a n cap] t) (ht : Tabs w) (hd : Dep (d + 1) t) (hgood : Good t) :
    Calls Tryz.prog 20 #[.agg #[.string kind, .string text, .int .i64 num, .slice a n cap]] w (SaysIf True w) := by
  have hcap := h.cap
  obtain ⟨kids, rfl, hz1, hz2, hn, hm, hk⟩ := h.kids
  have HD := Lib.hid (show ∀ k ∈ kids, Dep d k from hd)
  have HDT := Lib.hid hd
  have HZ1 := Lib.hid hz1
  have HZ2 := Lib.hid hz2
  have HM := Lib.hid hm
  unfold maxLen at hz1 hz2 hm
  have HB0 := Lib.hid (box_at h)
  have HT0 := Lib.hid (ht.keep (below_new w (.cells #[.string kind, .string text, .int .i64 num, .slice a n cap] 24)))
  have HK0 := Lib.hid (hk.keep (below_new w (.cells #[.string kind, .string text, .int .i64 num, .slice a n cap] 24)))
  have HW0 := Lib.hid (below_new w (.cells #[.string kind, .string text, .int .i64 num, .slice a n cap] 24))
  have HN := Lib.hid hn
  clear hk h ht hd hn
  have HG := Lib.hid hgood
  rcases bt (kind.toList == [84, 101, 109, 112, 108, 97, 116, 101]) with qTemplate | qTemplate
  · obtain ⟨k0, ks, rfl, _⟩ := good_tmpl hgood (eq_list qTemplate)
    have hn1 : 0 < n := by have := HN.out; simp at this; omega
    clear hgood hcap
    obtain ⟨b, off, kd0, tx0, nm0, a0, n0, cap0, rfl, hx⟩ := HK0.out.one
    have HX0 := Lib.hid hx
    clear hx
    obtain ⟨xb0, xb1, xb2, xb3⟩ := HB0.out.box
    obtain ⟨xX0, xX1, xX2, xX3⟩ := HX0.out.cells
    go_enter Tryz.func20, Tryz.ntmps20
    go_wp2_with fail
    refine ((isMaker_any d).mono.at HX0.out HT0.out (HD.out k0 (by simp))).mono ?_
    rintro e w1 ⟨b1, rfl, hp1, hb1⟩
    have HP1 := Lib.hid hp1
    have HB1 := Lib.hid (HB0.out.keep hb1)
    have HT1 := Lib.hid (HT0.out.keep hb1)
    have HX1 := Lib.hid (HX0.out.keep hb1)
    have HW1 := Lib.hid (behind HW0.out hb1)
    clear hp1 hb1
    clear xb0 xb1 xb2 xb3 xX0 xX1 xX2 xX3
    obtain ⟨xb0, xb1, xb2, xb3⟩ := HB1.out.box
    obtain ⟨xX0, xX1, xX2, xX3⟩ := HX1.out.cells
    go_wp2_with fail
    all_goals (go_ret; exact .any HW1.out)
  go_enter Tryz.func20, Tryz.ntmps20
  go_wp2_with fail
  all_goals (go_ret; exact .any HW0.out)

set_option maxRecDepth 100000 in
set_option maxHeartbeats 4000000 in
theorem inScope_any (d : Nat) (t : NT) (kind text : ByteArray) (num : Int) (a : Option Addr) (n cap : Nat) (w : World) (h : NV w [.string kind, .string text, .int .i64 num, .slice a n cap] t) (ht : Tabs w) (hd : Dep (d + 1) t) (hgood : Good t) :
    Calls Tryz.prog 25 #[.agg #[.string kind, .string text, .int .i64 num, .slice a n cap]] w (SaysIf True w) := by
  have hcap := h.cap
  obtain ⟨kids, rfl, hz1, hz2, hn, hm, hk⟩ := h.kids
  have HH := Lib.hid h
  have HTT := Lib.hid ht
  have HD := Lib.hid (show ∀ k ∈ kids, Dep d k from hd)
  have HDT := Lib.hid hd
  have HZ1 := Lib.hid hz1
  have HZ2 := Lib.hid hz2
  have HM := Lib.hid hm
  unfold maxLen at hz1 hz2 hm
  have HB0 := Lib.hid (box_at h)
  have HT0 := Lib.hid (ht.keep (below_new w (.cells #[.string kind, .string text, .int .i64 num, .slice a n cap] 24)))
  have HK0 := Lib.hid (hk.keep (below_new w (.cells #[.string kind, .string text, .int .i64 num, .slice a n cap] 24)))
  have HW0 := Lib.hid (below_new w (.cells #[.string kind, .string text, .int .i64 num, .slice a n cap] 24))
  have HN := Lib.hid hn
  clear hk h ht hd hn
  have HG := Lib.hid hgood
  rcases bt (kind.toList == [84, 101, 109, 112, 108, 97, 116, 101]) with qTemplate | qTemplate
  · obtain ⟨k0, ks, rfl, hgk⟩ := good_tmpl hgood (eq_list qTemplate)
    have hn1 : 0 < n := by have := HN.out; simp at this; omega
    have HGK := Lib.hid hgk
    clear hgood hcap hgk
    obtain ⟨ks3, ek, hq1, hq2, hq3, hq4, hkw⟩ := HH.out.kids
    clear hq1 hq2 hq3 hq4
    simp at ek
    subst ek
    obtain ⟨b, off, kd0, tx0, nm0, a0, n0, cap0, rfl, hx⟩ := hkw.one
    have HXW := Lib.hid hx
    have HX0 := Lib.hid (hx.keep (below_new w (.cells #[.string kind, .string text, .int .i64 num, .slice (some ⟨b, off, none⟩) n cap] 24)))
    clear hx hkw
    obtain ⟨xb0, xb1, xb2, xb3⟩ := HB0.out.box
    obtain ⟨xX0, xX1, xX2, xX3⟩ := HX0.out.cells
    rcases bt (kd0.toList == [81, 117, 97, 108, 105, 102, 105, 101, 100]) with qfQualified | qfQualified
    · obtain ⟨ks2, ek2, _, _, hn2, _, hk2⟩ := HXW.out.nv.kids
      subst ek2
      obtain ⟨l0, l1, rfl, _, _⟩ := good_two HGK.out (memK qfQualified (by simp [twoK]))
      obtain rfl : n0 = 2 := hn2
      obtain ⟨b2, off2, kd2, tx2, nm2, a2, n2, cap2, _, _, _, _, _, _, rfl, hy, _⟩ := hk2.two
      have HY0 := Lib.hid (hy.keep (below_new w (.cells #[.string kd0, .string tx0, .int .i64 nm0, .slice (some ⟨b2, off2, none⟩) 2 cap0] 24)))
      have HTY := Lib.hid (HTT.out.keep (below_new w (.cells #[.string kd0, .string tx0, .int .i64 nm0, .slice (some ⟨b2, off2, none⟩) 2 cap0] 24)))
      have HD0 := Lib.hid (HD.out (.mk kd0 tx0 nm0 [l0, l1]) (by simp))
      clear hk2 hy
      obtain ⟨g, rfl⟩ : ∃ g, d = g + 1 := by cases d with | zero => exact absurd HD0.out id | succ g => exact ⟨g, rfl⟩
      have HDL := Lib.hid (show Dep g l0 from HD0.out l0 (by simp))
      obtain ⟨y0, y1, y2, y3⟩ := HY0.out.cells
      go_enter Tryz.func25, Tryz.ntmps25
      go_wp2_with fail
      refine ((isStd_any g).at HY0.out HTY.out HDL.out).mono ?_
      rintro e w1 ⟨b1, rfl, _, hb1⟩
      have HW1 := Lib.hid (behind (below_new w (.cells #[.string kd0, .string tx0, .int .i64 nm0, .slice (some ⟨b2, off2, none⟩) 2 cap0] 24)) hb1)
      clear hb1
      go_wp2_with fail
      all_goals (go_ret; exact .any HW1.out)
    · go_enter Tryz.func25, Tryz.ntmps25
      go_wp2_with fail
      all_goals (go_ret; exact .any (below_new _ _))
  rcases bt (kind.toList == [81, 117, 97, 108, 105, 102, 105, 101, 100]) with qQualified | qQualified
  · obtain ⟨k0, k1, rfl, _, _⟩ := good_two hgood (memK qQualified (by simp [twoK]))
    obtain rfl : n = 2 := HN.out
    clear hgood hcap
    obtain ⟨b, off, kd0, tx0, nm0, a0, n0, cap0, kd1, tx1, nm1, a1, n1, cap1, rfl, hx, hy⟩ := HK0.out.two
    have HX0 := Lib.hid hx
    have HY0 := Lib.hid hy
    clear hx hy
    obtain ⟨xb0, xb1, xb2, xb3⟩ := HB0.out.box
    obtain ⟨xX0, xX1, xX2, xX3⟩ := HX0.out.cells
    obtain ⟨xY0, xY1, xY2, xY3⟩ := HY0.out.cells
    go_enter Tryz.func25, Tryz.ntmps25
    go_wp2_with fail
    refine ((isStd_any d).at HX0.out HT0.out (HD.out k0 (by simp))).mono ?_
    rintro e w1 ⟨b1, rfl, hp1, hb1⟩
    have HP1 := Lib.hid hp1
    have HB1 := Lib.hid (HB0.out.keep hb1)
    have HT1 := Lib.hid (HT0.out.keep hb1)
    have HX1 := Lib.hid (HX0.out.keep hb1)
    have HY1 := Lib.hid (HY0.out.keep hb1)
    have HW1 := Lib.hid (behind HW0.out hb1)
    clear hp1 hb1
    clear xb0 xb1 xb2 xb3 xX0 xX1 xX2 xX3 xY0 xY1 xY2 xY3
    obtain ⟨xb0, xb1, xb2, xb3⟩ := HB1.out.box
    obtain ⟨xX0, xX1, xX2, xX3⟩ := HX1.out.cells
    obtain ⟨xY0, xY1, xY2, xY3⟩ := HY1.out.cells
    go_wp2_with fail
    all_goals (go_ret; exact .any HW1.out)
  go_enter Tryz.func25, Tryz.ntmps25
  go_wp2_with fail
  all_goals (go_ret; exact .any HW0.out)

end Go.Proofs.YtdlhhdhooacogaaGreatDoor

/-
  isLiteral, isReturn, isFunctionType.
-/
import Derived.Test.YtdlhhdhooacogaaGreatDoorWL
import Derived.Deep.LoopGhost
namespace Go.Proofs.YtdlhhdhooacogaaGreatDoor
open Go.RowKit

set_option maxHeartbeats 8000000 in
theorem isLiteral_of (d : Nat) (hC : Wk 13 Good d) (hT : Wk 38 Good d) : Wk 58 LitP (d + 1) := by
  intro t kind text num a n cap w h ht hd
  have hcap := h.cap
  obtain ⟨kids, rfl, hz1, hz2, hn, hm, hk⟩ := h.kids
  have HD := Lib.hid (show ∀ k ∈ kids, Dep d k from hd)
  have HDT := Lib.hid hd
  have HZ1 := Lib.hid hz1
  have HZ2 := Lib.hid hz2
  have HM := Lib.hid hm
  unfold maxLen at hz1 hz2 hm
  have HB0 := Lib.hid (box_at h)
  have HT0 := Lib.hid (ht.keep (below_new w (.cells #[.string kind, .string text, .int .i64 num, .slice a n cap] 24)))
  have HK0 := Lib.hid (hk.keep (below_new w (.cells #[.string kind, .string text, .int .i64 num, .slice a n cap] 24)))
  have HW0 := Lib.hid (below_new w (.cells #[.string kind, .string text, .int .i64 num, .slice a n cap] 24))
  have HN := Lib.hid hn
  clear hk h ht hd hn
  have HCL := Lib.hid hC
  have HTY := Lib.hid hT
  clear hC hT hcap
  by_cases hn1 : n = 1
  rotate_left
  · have qn : ((n : Int) == 1) = false := by simp; omega
    go_enter Tryz.func58, Tryz.ntmps58
    go_wp2_with fail
    all_goals (go_ret; exact .no HW0.out)
  obtain ⟨k0, rfl⟩ := one_of HN.out hn1
  subst hn1
  go_enter Tryz.func58, Tryz.ntmps58
  go_wp2_with fail
  refine (digits_any _ _ HZ2.out).mono ?_
  rintro e w1 ⟨b1, rfl, hp1, hb1⟩
  have HP1 := Lib.hid hp1
  have HB1 := Lib.hid (HB0.out.keep hb1)
  have HT1 := Lib.hid (HT0.out.keep hb1)
  have HK1 := Lib.hid (HK0.out.keep hb1)
  have HW1 := Lib.hid (behind HW0.out hb1)
  clear hp1 hb1
  obtain ⟨xb0, xb1, xb2, xb3⟩ := HB1.out.box
  cases b1 with
  | false =>
    go_wp2_with fail
    go_ret
    exact .no HW1.out
  | true =>
    by_cases hl : num < 0
    · go_wp2_with fail
      go_ret
      exact .no HW1.out
    by_cases hl2 : 1 < num
    · go_wp2_with fail
      all_goals (go_ret; exact .no HW1.out)
    obtain ⟨b, off, kd0, tx0, nm0, a0, n0, cap0, rfl, hx⟩ := HK1.out.one
    have HX1 := Lib.hid hx
    clear hx
    clear xb0 xb1 xb2 xb3
    obtain ⟨xb0, xb1, xb2, xb3⟩ := HB1.out.box
    obtain ⟨xX0, xX1, xX2, xX3⟩ := HX1.out.cells
    have HC0 := Lib.hid (box_at HX1.out.nv)
    have HB9 := Lib.hid (HB1.out.keep (below_new w1 (.cells #[.string kd0, .string tx0, .int .i64 nm0, .slice a0 n0 cap0] 24)))
    have HT9 := Lib.hid (HT1.out.keep (below_new w1 (.cells #[.string kd0, .string tx0, .int .i64 nm0, .slice a0 n0 cap0] 24)))
    have HW9 := Lib.hid (behind HW1.out (below_new w1 (.cells #[.string kd0, .string tx0, .int .i64 nm0, .slice a0 n0 cap0] 24)))
    have hb0 : w.heap.size < w1.heap.size := HB1.out.lt
    have pf := fun h : Good k0 => (⟨k0, rfl, h⟩ : LitP (.mk kind text num [k0]))
    have PF := Lib.hid pf
    clear pf
    rcases bt (kd0.toList == [66, 117, 105, 108, 116, 105, 110, 84, 121, 112, 101]) with qfBuiltinType | qfBuiltinType
    · rcases bt (tx0.toList == [98, 111, 111, 108]) with qbool | qbool
      · go_wp2_with fail
        refine (HTY.out.at HC0.out HT9.out (HD.out k0 (by simp))).mono ?_
        rintro e w2 ⟨b2, rfl, hp2, hb2⟩
        have HP2 := Lib.hid hp2
        have HB2 := Lib.hid (HB9.out.keep hb2)
        have HW2 := Lib.hid (behind HW9.out hb2)
        obtain ⟨y0, y1, y2, y3⟩ := HB2.out.box
        clear hp2 hb2
        cases b2 with
        | false =>
          go_wp2_with fail
          go_ret
          exact .no HW2.out
        | true =>
          go_wp2_with fail
          all_goals (go_ret; exact .yes (PF.out (HP2.out (by simp))) HW2.out)
      rcases bt (tx0.toList == [105, 110, 116]) with qint | qint
      · go_wp2_with fail
        refine (HTY.out.at HC0.out HT9.out (HD.out k0 (by simp))).mono ?_
        rintro e w2 ⟨b2, rfl, hp2, hb2⟩
        have HP2 := Lib.hid hp2
        have HB2 := Lib.hid (HB9.out.keep hb2)
        have HW2 := Lib.hid (behind HW9.out hb2)
        obtain ⟨y0, y1, y2, y3⟩ := HB2.out.box
        clear hp2 hb2
        cases b2 with
        | false =>
          go_wp2_with fail
          go_ret
          exact .no HW2.out
        | true =>
          go_wp2_with fail
          all_goals (go_ret; exact .yes (PF.out (HP2.out (by simp))) HW2.out)
      rcases bt (tx0.toList == [108, 111, 110, 103]) with qlong | qlong
      · go_wp2_with fail
        refine (HTY.out.at HC0.out HT9.out (HD.out k0 (by simp))).mono ?_
        rintro e w2 ⟨b2, rfl, hp2, hb2⟩
        have HP2 := Lib.hid hp2
        have HB2 := Lib.hid (HB9.out.keep hb2)
        have HW2 := Lib.hid (behind HW9.out hb2)
        obtain ⟨y0, y1, y2, y3⟩ := HB2.out.box
        clear hp2 hb2
        cases b2 with
        | false =>
          go_wp2_with fail
          go_ret
          exact .no HW2.out
        | true =>
          go_wp2_with fail
          all_goals (go_ret; exact .yes (PF.out (HP2.out (by simp))) HW2.out)
      rcases bt (tx0.toList == [108, 111, 110, 103, 32, 108, 111, 110, 103]) with qlonglong | qlonglong
      · go_wp2_with fail
        refine (HTY.out.at HC0.out HT9.out (HD.out k0 (by simp))).mono ?_
        rintro e w2 ⟨b2, rfl, hp2, hb2⟩
        have HP2 := Lib.hid hp2
        have HB2 := Lib.hid (HB9.out.keep hb2)
        have HW2 := Lib.hid (behind HW9.out hb2)
        obtain ⟨y0, y1, y2, y3⟩ := HB2.out.box
        clear hp2 hb2
        cases b2 with
        | false =>
          go_wp2_with fail
          go_ret
          exact .no HW2.out
        | true =>
          go_wp2_with fail
          all_goals (go_ret; exact .yes (PF.out (HP2.out (by simp))) HW2.out)
      rcases bt (tx0.toList == [99, 104, 97, 114]) with qchar | qchar
      · go_wp2_with fail
        refine (HTY.out.at HC0.out HT9.out (HD.out k0 (by simp))).mono ?_
        rintro e w2 ⟨b2, rfl, hp2, hb2⟩
        have HP2 := Lib.hid hp2
        have HB2 := Lib.hid (HB9.out.keep hb2)
        have HW2 := Lib.hid (behind HW9.out hb2)
        obtain ⟨y0, y1, y2, y3⟩ := HB2.out.box
        clear hp2 hb2
        cases b2 with
        | false =>
          go_wp2_with fail
          go_ret
          exact .no HW2.out
        | true =>
          go_wp2_with fail
          all_goals (go_ret; exact .yes (PF.out (HP2.out (by simp))) HW2.out)
      rcases bt (tx0.toList == [115, 105, 103, 110, 101, 100, 32, 99, 104, 97, 114]) with qsignedchar | qsignedchar
      · go_wp2_with fail
        refine (HTY.out.at HC0.out HT9.out (HD.out k0 (by simp))).mono ?_
        rintro e w2 ⟨b2, rfl, hp2, hb2⟩
        have HP2 := Lib.hid hp2
        have HB2 := Lib.hid (HB9.out.keep hb2)
        have HW2 := Lib.hid (behind HW9.out hb2)
        obtain ⟨y0, y1, y2, y3⟩ := HB2.out.box
        clear hp2 hb2
        cases b2 with
        | false =>
          go_wp2_with fail
          go_ret
          exact .no HW2.out
        | true =>
          go_wp2_with fail
          all_goals (go_ret; exact .yes (PF.out (HP2.out (by simp))) HW2.out)
      rcases bt (tx0.toList == [115, 104, 111, 114, 116]) with qshort | qshort
      · go_wp2_with fail
        refine (HTY.out.at HC0.out HT9.out (HD.out k0 (by simp))).mono ?_
        rintro e w2 ⟨b2, rfl, hp2, hb2⟩
        have HP2 := Lib.hid hp2
        have HB2 := Lib.hid (HB9.out.keep hb2)
        have HW2 := Lib.hid (behind HW9.out hb2)
        obtain ⟨y0, y1, y2, y3⟩ := HB2.out.box
        clear hp2 hb2
        cases b2 with
        | false =>
          go_wp2_with fail
          go_ret
          exact .no HW2.out
        | true =>
          go_wp2_with fail
          all_goals (go_ret; exact .yes (PF.out (HP2.out (by simp))) HW2.out)
      rcases bt (tx0.toList == [117, 110, 115, 105, 103, 110, 101, 100, 32, 105, 110, 116]) with qunsignedint | qunsignedint
      · go_wp2_with fail
        refine (HTY.out.at HC0.out HT9.out (HD.out k0 (by simp))).mono ?_
        rintro e w2 ⟨b2, rfl, hp2, hb2⟩
        have HP2 := Lib.hid hp2
        have HB2 := Lib.hid (HB9.out.keep hb2)
        have HW2 := Lib.hid (behind HW9.out hb2)
        obtain ⟨y0, y1, y2, y3⟩ := HB2.out.box
        clear hp2 hb2
        cases b2 with
        | false =>
          go_wp2_with fail
          go_ret
          exact .no HW2.out
        | true =>
          go_wp2_with fail
          all_goals (go_ret; exact .yes (PF.out (HP2.out (by simp))) HW2.out)
      rcases bt (tx0.toList == [117, 110, 115, 105, 103, 110, 101, 100, 32, 108, 111, 110, 103]) with qunsignedlong | qunsignedlong
      · go_wp2_with fail
        refine (HTY.out.at HC0.out HT9.out (HD.out k0 (by simp))).mono ?_
        rintro e w2 ⟨b2, rfl, hp2, hb2⟩
        have HP2 := Lib.hid hp2
        have HB2 := Lib.hid (HB9.out.keep hb2)
        have HW2 := Lib.hid (behind HW9.out hb2)
        obtain ⟨y0, y1, y2, y3⟩ := HB2.out.box
        clear hp2 hb2
        cases b2 with
        | false =>
          go_wp2_with fail
          go_ret
          exact .no HW2.out
        | true =>
          go_wp2_with fail
          all_goals (go_ret; exact .yes (PF.out (HP2.out (by simp))) HW2.out)
      rcases bt (tx0.toList == [117, 110, 115, 105, 103, 110, 101, 100, 32, 108, 111, 110, 103, 32, 108, 111, 110, 103]) with qunsignedlonglong | qunsignedlonglong
      · go_wp2_with fail
        refine (HTY.out.at HC0.out HT9.out (HD.out k0 (by simp))).mono ?_
        rintro e w2 ⟨b2, rfl, hp2, hb2⟩
        have HP2 := Lib.hid hp2
        have HB2 := Lib.hid (HB9.out.keep hb2)
        have HW2 := Lib.hid (behind HW9.out hb2)
        obtain ⟨y0, y1, y2, y3⟩ := HB2.out.box
        clear hp2 hb2
        cases b2 with
        | false =>
          go_wp2_with fail
          go_ret
          exact .no HW2.out
        | true =>
          go_wp2_with fail
          all_goals (go_ret; exact .yes (PF.out (HP2.out (by simp))) HW2.out)
      rcases bt (tx0.toList == [117, 110, 115, 105, 103, 110, 101, 100, 32, 99, 104, 97, 114]) with qunsignedchar | qunsignedchar
      · go_wp2_with fail
        refine (HTY.out.at HC0.out HT9.out (HD.out k0 (by simp))).mono ?_
        rintro e w2 ⟨b2, rfl, hp2, hb2⟩
        have HP2 := Lib.hid hp2
        have HB2 := Lib.hid (HB9.out.keep hb2)
        have HW2 := Lib.hid (behind HW9.out hb2)
        obtain ⟨y0, y1, y2, y3⟩ := HB2.out.box
        clear hp2 hb2
        cases b2 with
        | false =>
          go_wp2_with fail
          go_ret
          exact .no HW2.out
        | true =>
          go_wp2_with fail
          all_goals (go_ret; exact .yes (PF.out (HP2.out (by simp))) HW2.out)
      rcases bt (tx0.toList == [117, 110, 115, 105, 103, 110, 101, 100, 32, 115, 104, 111, 114, 116]) with qunsignedshort | qunsignedshort
      · go_wp2_with fail
        refine (HTY.out.at HC0.out HT9.out (HD.out k0 (by simp))).mono ?_
        rintro e w2 ⟨b2, rfl, hp2, hb2⟩
        have HP2 := Lib.hid hp2
        have HB2 := Lib.hid (HB9.out.keep hb2)
        have HW2 := Lib.hid (behind HW9.out hb2)
        obtain ⟨y0, y1, y2, y3⟩ := HB2.out.box
        clear hp2 hb2
        cases b2 with
        | false =>
          go_wp2_with fail
          go_ret
          exact .no HW2.out
        | true =>
          go_wp2_with fail
          all_goals (go_ret; exact .yes (PF.out (HP2.out (by simp))) HW2.out)
      rcases bt (tx0.toList == [119, 99, 104, 97, 114, 95, 116]) with qwchart | qwchart
      · go_wp2_with fail
        refine (HTY.out.at HC0.out HT9.out (HD.out k0 (by simp))).mono ?_
        rintro e w2 ⟨b2, rfl, hp2, hb2⟩
        have HP2 := Lib.hid hp2
        have HB2 := Lib.hid (HB9.out.keep hb2)
        have HW2 := Lib.hid (behind HW9.out hb2)
        obtain ⟨y0, y1, y2, y3⟩ := HB2.out.box
        clear hp2 hb2
        cases b2 with
        | false =>
          go_wp2_with fail
          go_ret
          exact .no HW2.out
        | true =>
          go_wp2_with fail
          all_goals (go_ret; exact .yes (PF.out (HP2.out (by simp))) HW2.out)
      go_wp2_with fail
      go_ret
      exact .no HW9.out
    · go_wp2_with fail
      refine (HCL.out.at HC0.out HT9.out (HD.out k0 (by simp))).mono ?_
      rintro e w2 ⟨b2, rfl, hp2, hb2⟩
      have HP2 := Lib.hid hp2
      have HC2 := Lib.hid (HC0.out.keep hb2)
      have HW2 := Lib.hid (behind HW9.out hb2)
      obtain ⟨y0, y1, y2, y3⟩ := HC2.out.box
      clear hp2 hb2
      cases b2 with
      | false =>
        go_wp2_with fail
        go_ret
        exact .no HW2.out
      | true =>
        go_wp2_with fail
        refine (has_any d k0 _ _ _ _ _ _ _ _ HC2.out.nv (HD.out k0 (by simp))).mono ?_
        rintro e w3 ⟨b3, rfl, _, hb3⟩
        have HW3 := Lib.hid (behind HW2.out hb3)
        clear hb3
        go_wp2_with fail
        all_goals (go_ret; exact .yes (PF.out (HP2.out (by simp))) HW3.out)

end Go.Proofs.YtdlhhdhooacogaaGreatDoor

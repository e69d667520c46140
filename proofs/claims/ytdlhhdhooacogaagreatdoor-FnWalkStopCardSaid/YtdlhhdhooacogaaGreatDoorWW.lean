/-
  isWord, isCast.
-/
import Derived.Test.YtdlhhdhooacogaaGreatDoorWV
namespace Go.Proofs.YtdlhhdhooacogaaGreatDoor
open Go.RowKit

theorem field0 (kd tx : ByteArray) (nm : Int) (a : Option Addr) (n cap : Nat) (w : World) : (Instr.field 24 (.agg #[.string kd, .string tx, .int .i64 nm, .slice a n cap]) 0).run Tryz.prog w = .ok (.string kd) w := by kernel_rfl

set_option maxRecDepth 100000 in
set_option maxHeartbeats 4000000 in
theorem isWord_any (d : Nat) : Wk 34 Good (d + 1) := by
  intro t kind text num a n cap w h ht hd
  have hcap := h.cap
  obtain ⟨kids, rfl, hz1, hz2, hn, hm, hk⟩ := h.kids
  have HD := Lib.hid (show ∀ k ∈ kids, Dep d k from hd)
  have HDT := Lib.hid hd
  have HZ1 := Lib.hid hz1
  have HZ2 := Lib.hid hz2
  have HM := Lib.hid hm
  unfold maxLen at hz1 hz2 hm
  have HB0 := Lib.hid (box_at h)
  have HT0 := Lib.hid (ht.keep (below_new w (.cells #[.string kind, .string text, .int .i64 num, .slice a n cap] 24)))
  have HK0 := Lib.hid (hk.keep (below_new w (.cells #[.string kind, .string text, .int .i64 num, .slice a n cap] 24)))
  have HW0 := Lib.hid (below_new w (.cells #[.string kind, .string text, .int .i64 num, .slice a n cap] 24))
  have HN := Lib.hid hn
  clear hk h ht hd hn
  clear hcap
  rcases bt (kind.toList == [84, 101, 109, 112, 108, 97, 116, 101]) with qTemplate | qTemplate
  · go_enter Tryz.func34, Tryz.ntmps34
    go_wp2_with fail
    go_ret
    exact .no HW0.out
  go_enter Tryz.func34, Tryz.ntmps34
  go_wp2_with fail
  refine ((types_any (d + 1)).1.at HB0.out HT0.out HDT.out).mono ?_
  rintro e w1 ⟨b1, rfl, hp1, hb1⟩
  have HP1 := Lib.hid hp1
  have HB1 := Lib.hid (HB0.out.keep hb1)
  have HT1 := Lib.hid (HT0.out.keep hb1)
  have HK1 := Lib.hid (HK0.out.keep hb1)
  have HW1 := Lib.hid (behind HW0.out hb1)
  clear hp1 hb1
  obtain ⟨xb0, xb1, xb2, xb3⟩ := HB1.out.box
  cases b1 with
  | false =>
    go_wp2_with fail
    go_ret
    exact .no HW1.out
  | true =>
    go_wp2_with fail
    refine (last_any (d + 1) _ _ _ _ _ _ _ _ HB1.out.nv HDT.out (HP1.out (by simp))).mono ?_
    rintro e w2 ⟨t2, kd2, tx2, nm2, a2, n2, cap2, rfl, _, _, _, hb2⟩
    have HW2 := Lib.hid (behind HW1.out hb2)
    have fl := field0
    clear hb2
    go_wp2_with fail
    all_goals (go_ret; exact .yes (HP1.out (by simp)) HW2.out)

set_option maxRecDepth 100000 in
set_option maxHeartbeats 8000000 in
theorem isCast_any (d : Nat) : Wk 37 Good (d + 1) := by
  intro t kind text num a n cap w h ht hd
  have hcap := h.cap
  obtain ⟨kids, rfl, hz1, hz2, hn, hm, hk⟩ := h.kids
  have HD := Lib.hid (show ∀ k ∈ kids, Dep d k from hd)
  have HDT := Lib.hid hd
  have HZ1 := Lib.hid hz1
  have HZ2 := Lib.hid hz2
  have HM := Lib.hid hm
  unfold maxLen at hz1 hz2 hm
  have HB0 := Lib.hid (box_at h)
  have HT0 := Lib.hid (ht.keep (below_new w (.cells #[.string kind, .string text, .int .i64 num, .slice a n cap] 24)))
  have HK0 := Lib.hid (hk.keep (below_new w (.cells #[.string kind, .string text, .int .i64 num, .slice a n cap] 24)))
  have HW0 := Lib.hid (below_new w (.cells #[.string kind, .string text, .int .i64 num, .slice a n cap] 24))
  have HN := Lib.hid hn
  clear hk h ht hd hn
  clear hcap
  rcases bt (kind.toList == [81, 117, 97, 108, 105, 102, 105, 101, 100]) with qQualified | qQualified
  · go_enter Tryz.func37, Tryz.ntmps37
    go_wp2_with fail
    refine (plain_any _ _ _ _ _ _ 2 _).mono ?_
    rintro e w1 ⟨b1, rfl, hp1, hb1⟩
    have HP1 := Lib.hid hp1
    have HB1 := Lib.hid (HB0.out.keep hb1)
    have HT1 := Lib.hid (HT0.out.keep hb1)
    have HK1 := Lib.hid (HK0.out.keep hb1)
    have HW1 := Lib.hid (behind HW0.out hb1)
    clear hp1 hb1
    obtain ⟨xb0, xb1, xb2, xb3⟩ := HB1.out.box
    cases b1 with
    | false =>
      go_wp2_with fail
      go_ret
      exact .no HW1.out
    | true =>
      obtain ⟨k0, k1, rfl⟩ := two_of HN.out (HP1.out (by simp))
      obtain rfl := HP1.out (by simp)
      obtain ⟨b, off, kd0, tx0, nm0, a0, n0, cap0, kd1, tx1, nm1, a1, n1, cap1, rfl, hx, hy⟩ := HK1.out.two
      have HX1 := Lib.hid hx
      have HY1 := Lib.hid hy
      clear hx hy
      clear xb0 xb1 xb2 xb3
      obtain ⟨xb0, xb1, xb2, xb3⟩ := HB1.out.box
      obtain ⟨xX0, xX1, xX2, xX3⟩ := HX1.out.cells
      obtain ⟨xY0, xY1, xY2, xY3⟩ := HY1.out.cells
      go_wp2_with fail
      refine ((types_any d).1.at HX1.out HT1.out (HD.out k0 (by simp))).mono ?_
      rintro e w2 ⟨b2, rfl, hp2, hb2⟩
      have HP2 := Lib.hid hp2
      have HB2 := Lib.hid (HB1.out.keep hb2)
      have HT2 := Lib.hid (HT1.out.keep hb2)
      have HX2 := Lib.hid (HX1.out.keep hb2)
      have HY2 := Lib.hid (HY1.out.keep hb2)
      have HW2 := Lib.hid (behind HW1.out hb2)
      clear hp2 hb2
      clear xb0 xb1 xb2 xb3 xX0 xX1 xX2 xX3 xY0 xY1 xY2 xY3
      obtain ⟨xb0, xb1, xb2, xb3⟩ := HB2.out.box
      obtain ⟨xX0, xX1, xX2, xX3⟩ := HX2.out.cells
      obtain ⟨xY0, xY1, xY2, xY3⟩ := HY2.out.cells
      cases b2 with
      | false =>
        go_wp2_with fail
        go_ret
        exact .no HW2.out
      | true =>
        rcases bt (kd1.toList == [67, 97, 115, 116]) with qfCast | qfCast
        · go_wp2_with fail
          have HB9 := Lib.hid (box_at HY2.out.nv)
          have HT9 := Lib.hid (HT2.out.keep (below_new w2 (.cells #[.string kd1, .string tx1, .int .i64 nm1, .slice a1 n1 cap1] 24)))
          have HW9 := Lib.hid (behind HW2.out (below_new w2 (.cells #[.string kd1, .string tx1, .int .i64 nm1, .slice a1 n1 cap1] 24)))
          obtain ⟨ks1, ek1, _, _, hn9, hm9, hk9⟩ := HY2.out.nv.kids
          have HK9 := Lib.hid (hk9.keep (below_new w2 (.cells #[.string kd1, .string tx1, .int .i64 nm1, .slice a1 n1 cap1] 24)))
          have HN9 := Lib.hid hn9
          have HD9 := Lib.hid (HD.out k1 (by simp))
          subst ek1
          clear hn9 hm9 hk9
          clear xb0 xb1 xb2 xb3 xX0 xX1 xX2 xX3 xY0 xY1 xY2 xY3
          refine (plain_any _ _ _ _ _ _ 1 _).mono ?_
          rintro e w10 ⟨b10, rfl, hp10, hb10⟩
          have HP10 := Lib.hid hp10
          have HB10 := Lib.hid (HB9.out.keep hb10)
          have HT10 := Lib.hid (HT9.out.keep hb10)
          have HK10 := Lib.hid (HK9.out.keep hb10)
          have HW10 := Lib.hid (behind HW9.out hb10)
          clear hp10 hb10
          obtain ⟨xb0, xb1, xb2, xb3⟩ := HB10.out.box
          cases b10 with
          | false =>
            go_wp2_with fail
            go_ret
            exact .no HW10.out
          | true =>
            obtain ⟨k2, rfl⟩ := one_of HN9.out (HP10.out (by simp))
            obtain rfl := HP10.out (by simp)
            obtain ⟨b2, off2, kd2, tx2, nm2, a2, n2, cap2, rfl, hx⟩ := HK10.out.one
            have HX10 := Lib.hid hx
            clear hx
            clear xb0 xb1 xb2 xb3
            obtain ⟨xb0, xb1, xb2, xb3⟩ := HB10.out.box
            obtain ⟨xX0, xX1, xX2, xX3⟩ := HX10.out.cells
            obtain ⟨g, rfl⟩ : ∃ g, d = g + 1 := by cases d with | zero => exact absurd HD9.out id | succ g => exact ⟨g, rfl⟩
            have HDC := Lib.hid (show Dep g k2 from HD9.out k2 (by simp))
            go_wp2_with fail
            refine ((types_any g).2.1.at HX10.out HT10.out HDC.out).mono ?_
            rintro e w11 ⟨b11, rfl, hp11, hb11⟩
            have HP11 := Lib.hid hp11
            have HB11 := Lib.hid (HB10.out.keep hb11)
            have HT11 := Lib.hid (HT10.out.keep hb11)
            have HX11 := Lib.hid (HX10.out.keep hb11)
            have HW11 := Lib.hid (behind HW10.out hb11)
            clear hp11 hb11
            clear xb0 xb1 xb2 xb3 xX0 xX1 xX2 xX3
            obtain ⟨xb0, xb1, xb2, xb3⟩ := HB11.out.box
            obtain ⟨xX0, xX1, xX2, xX3⟩ := HX11.out.cells
            cases b11 with
            | false =>
              go_wp2_with fail
              go_ret
              exact .no HW11.out
            | true =>
              go_wp2_with fail
              refine ((turned_any g).toWk.at HX11.out HT11.out HDC.out).mono ?_
              rintro e w12 ⟨b12, rfl, hp12, hb12⟩
              have HP12 := Lib.hid hp12
              have HB12 := Lib.hid (HB11.out.keep hb12)
              have HT12 := Lib.hid (HT11.out.keep hb12)
              have HX12 := Lib.hid (HX11.out.keep hb12)
              have HW12 := Lib.hid (behind HW11.out hb12)
              clear hp12 hb12
              clear xb0 xb1 xb2 xb3 xX0 xX1 xX2 xX3
              obtain ⟨xb0, xb1, xb2, xb3⟩ := HB12.out.box
              obtain ⟨xX0, xX1, xX2, xX3⟩ := HX12.out.cells
              cases b12 with
              | true =>
                go_wp2_with fail
                go_ret
                exact .no HW12.out
              | false =>
                go_wp2_with fail
                refine ((isReference_any g).at HX12.out HT12.out HDC.out).mono ?_
                rintro e w13 ⟨b13, rfl, hp13, hb13⟩
                have HP13 := Lib.hid hp13
                have HB13 := Lib.hid (HB12.out.keep hb13)
                have HT13 := Lib.hid (HT12.out.keep hb13)
                have HX13 := Lib.hid (HX12.out.keep hb13)
                have HW13 := Lib.hid (behind HW12.out hb13)
                clear hp13 hb13
                clear xb0 xb1 xb2 xb3 xX0 xX1 xX2 xX3
                obtain ⟨xb0, xb1, xb2, xb3⟩ := HB13.out.box
                obtain ⟨xX0, xX1, xX2, xX3⟩ := HX13.out.cells
                cases b13 with
                | true =>
                  go_wp2_with fail
                  go_ret
                  exact .no HW13.out
                | false =>
                  go_wp2_with fail
                  refine (has_any g _ _ _ _ _ _ _ _ _ HX13.out.nv HDC.out).mono ?_
                  rintro e w14 ⟨b14, rfl, _, hb14⟩
                  have HW14 := Lib.hid (behind HW13.out hb14)
                  clear hb14
                  go_wp2_with fail
                  all_goals (go_ret; exact .yes (.two (memK qQualified (by simp [twoK])) (HP2.out (by simp)) (.one (memK qfCast (by simp [oneK])) (HP11.out (by simp)))) HW14.out)
        · go_wp2_with fail
          go_ret
          exact .no (behind HW2.out (below_new _ _))
  go_enter Tryz.func37, Tryz.ntmps37
  go_wp2_with fail
  go_ret
  exact .no HW0.out

end Go.Proofs.YtdlhhdhooacogaaGreatDoor

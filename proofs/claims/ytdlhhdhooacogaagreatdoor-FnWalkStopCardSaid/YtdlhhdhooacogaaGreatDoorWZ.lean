/-
  IsFunction, IsMethod, IsEncoding.
-/
import Derived.Test.YtdlhhdhooacogaaGreatDoorWY
namespace Go.Proofs.YtdlhhdhooacogaaGreatDoor
open Go.RowKit

/-- A function's form. -/
def FunP (t : NT) : Prop := t.kind = ⟨#[84, 121, 112, 101, 100]⟩ ∧ Good t

set_option maxRecDepth 100000 in
set_option maxHeartbeats 16000000 in
theorem isFunction_any (d : Nat) : Wk 11 FunP (d + 1) := by
  intro t kind text num a n cap w h ht hd
  have hcap := h.cap
  obtain ⟨kids, rfl, hz1, hz2, hn, hm, hk⟩ := h.kids
  have HD := Lib.hid (show ∀ k ∈ kids, Dep d k from hd)
  have HDT := Lib.hid hd
  have HZ1 := Lib.hid hz1
  have HZ2 := Lib.hid hz2
  have HM := Lib.hid hm
  unfold maxLen at hz1 hz2 hm
  have HB0 := Lib.hid (box_at h)
  have HT0 := Lib.hid (ht.keep (below_new w (.cells #[.string kind, .string text, .int .i64 num, .slice a n cap] 24)))
  have HK0 := Lib.hid (hk.keep (below_new w (.cells #[.string kind, .string text, .int .i64 num, .slice a n cap] 24)))
  have HW0 := Lib.hid (below_new w (.cells #[.string kind, .string text, .int .i64 num, .slice a n cap] 24))
  have HN := Lib.hid hn
  clear hk h ht hd hn
  clear hcap hz1 hz2 hm
  rcases bt (kind.toList == [84, 121, 112, 101, 100]) with qTyped | qTyped
  · go_enter Tryz.func11, Tryz.ntmps11
    go_wp2_with fail
    refine (plain_any _ _ _ _ _ _ 2 _).mono ?_
    rintro e w1 ⟨b1, rfl, hp1, hb1⟩
    have HP1 := Lib.hid hp1
    have HB1 := Lib.hid (HB0.out.keep hb1)
    have HT1 := Lib.hid (HT0.out.keep hb1)
    have HK1 := Lib.hid (HK0.out.keep hb1)
    have HW1 := Lib.hid (behind HW0.out hb1)
    clear hp1 hb1
    obtain ⟨xb0, xb1, xb2, xb3⟩ := HB1.out.box
    cases b1 with
    | false =>
      go_wp2_with fail
      go_ret
      exact .no HW1.out
    | true =>
      obtain ⟨k0, k1, rfl⟩ := two_of HN.out (HP1.out (by simp))
      obtain rfl := HP1.out (by simp)
      obtain ⟨b, off, kd0, tx0, nm0, a0, n0, cap0, kd1, tx1, nm1, a1, n1, cap1, rfl, hx, hy⟩ := HK1.out.two
      have HX1 := Lib.hid hx
      have HY1 := Lib.hid hy
      clear hx hy
      clear xb0 xb1 xb2 xb3
      obtain ⟨xb0, xb1, xb2, xb3⟩ := HB1.out.box
      obtain ⟨xX0, xX1, xX2, xX3⟩ := HX1.out.cells
      obtain ⟨xY0, xY1, xY2, xY3⟩ := HY1.out.cells
      go_wp2_with fail
      refine ((isFunctionName_any d).mono.at HX1.out HT1.out (HD.out k0 (by simp))).mono ?_
      rintro e w2 ⟨b2, rfl, hp2, hb2⟩
      have HP2 := Lib.hid hp2
      have HB2 := Lib.hid (HB1.out.keep hb2)
      have HT2 := Lib.hid (HT1.out.keep hb2)
      have HX2 := Lib.hid (HX1.out.keep hb2)
      have HY2 := Lib.hid (HY1.out.keep hb2)
      have HW2 := Lib.hid (behind HW1.out hb2)
      clear hp2 hb2
      clear xb0 xb1 xb2 xb3 xX0 xX1 xX2 xX3 xY0 xY1 xY2 xY3
      obtain ⟨xb0, xb1, xb2, xb3⟩ := HB2.out.box
      obtain ⟨xX0, xX1, xX2, xX3⟩ := HX2.out.cells
      obtain ⟨xY0, xY1, xY2, xY3⟩ := HY2.out.cells
      cases b2 with
      | false =>
        go_wp2_with fail
        go_ret
        exact .no HW2.out
      | true =>
        have HD0 := Lib.hid (HD.out k0 (by simp))
        obtain ⟨g, rfl⟩ : ∃ g, d = g + 1 := by cases d with | zero => exact absurd HD0.out id | succ g => exact ⟨g, rfl⟩
        have HG0 := Lib.hid (HP2.out (by simp))
        have HA2 := HB2
        have HRT := Lib.hid (isReturn_of g (types_any g).2.1)
        have HPA := Lib.hid (areParams_of g (types_any g).2.1)
        rcases bt (kd1.toList == [70, 117, 110, 99, 116, 105, 111, 110, 84, 121, 112, 101]) with qfFunctionType | qfFunctionType
        · rcases bt tx1.toList.isEmpty with qt | qt
          rotate_left
          · go_wp2_with fail
            all_goals (go_ret; exact .no (behind HW2.out (below_new _ _)))
          by_cases hz0 : nm1 = 0
          rotate_left
          · have qz : (nm1 == 0) = false := by simpa using hz0
            go_wp2_with fail
            all_goals (go_ret; exact .no (behind HW2.out (below_new _ _)))
          subst hz0
          by_cases hn0 : n1 = 0
          · subst hn0
            go_wp2_with fail
            all_goals (go_ret; exact .no (behind HW2.out (below_new _ _)))
          have hc9 := HY2.out.nv.cap
          obtain ⟨m, rfl⟩ : ∃ m, n1 = m + 1 := ⟨n1 - 1, by omega⟩
          clear hn0
          obtain ⟨ks1, ek1, _, hz9, hn9, hm9, hk9⟩ := HY2.out.nv.kids
          obtain ⟨r0, rs, rfl⟩ : ∃ r0 rs, ks1 = r0 :: rs := by cases ks1 with | nil => exact absurd hn9 (by simp) | cons r0 rs => exact ⟨r0, rs, rfl⟩
          obtain ⟨b2, off2, rfl⟩ := hk9.addr
          have HB9 := Lib.hid (box_at HY2.out.nv)
          have HT9 := Lib.hid (HT2.out.keep (below_new w2 (.cells #[.string kd1, .string tx1, .int .i64 0, .slice (some ⟨b2, off2, none⟩) (m + 1) cap1] 24)))
          have HW9 := Lib.hid (behind HW2.out (below_new w2 (.cells #[.string kd1, .string tx1, .int .i64 0, .slice (some ⟨b2, off2, none⟩) (m + 1) cap1] 24)))
          have HA9 := Lib.hid (HA2.out.keep (below_new w2 (.cells #[.string kd1, .string tx1, .int .i64 0, .slice (some ⟨b2, off2, none⟩) (m + 1) cap1] 24)))
          have HX9 := Lib.hid (HX2.out.keep (below_new w2 (.cells #[.string kd1, .string tx1, .int .i64 0, .slice (some ⟨b2, off2, none⟩) (m + 1) cap1] 24)))
          have HV9 := Lib.hid (hk9.tail.keep (below_new w2 (.cells #[.string kd1, .string tx1, .int .i64 0, .slice (some ⟨b2, off2, none⟩) (m + 1) cap1] 24)))
          obtain ⟨kd2, tx2, nm2, a2, n2, cap2, hy⟩ := hk9.same 0 (by simp) rfl
          have HY9 := Lib.hid (show KidAt (w2.alloc (.cells #[.string kd1, .string tx1, .int .i64 0, .slice (some ⟨b2, off2, none⟩) (m + 1) cap1] 24)) b2 off2 r0 kd2 tx2 nm2 a2 n2 cap2 by have := hy.keep (below_new w2 (.cells #[.string kd1, .string tx1, .int .i64 0, .slice (some ⟨b2, off2, none⟩) (m + 1) cap1] 24)); simpa using this)
          have HM9 := Lib.hid (show m = rs.length by simp at hn9; omega)
          have HL9 := Lib.hid (show m ≤ maxLen by omega)
          have hm2 : m ≤ 9223372036854775807 := by unfold maxLen at hm9; omega
          have HD9 := Lib.hid (HD.out k1 (by simp))
          subst ek1
          have HDR := Lib.hid (show Dep g r0 from HD9.out r0 (by simp))
          have HDS := Lib.hid (show ∀ k ∈ rs, Dep g k from fun k hk => HD9.out k (List.mem_cons_of_mem _ hk))
          clear hz9 hn9 hm9 hk9 hy
          clear xb0 xb1 xb2 xb3 xX0 xX1 xX2 xX3 xY0 xY1 xY2 xY3
          obtain ⟨xb0, xb1, xb2, xb3⟩ := HA2.out.box
          obtain ⟨xX0, xX1, xX2, xX3⟩ := HX2.out.cells
          obtain ⟨xY0, xY1, xY2, xY3⟩ := HY2.out.cells
          by_cases hc1 : cap1 = 1
          · obtain rfl : m = 0 := by omega
            obtain rfl := nil_of HM9.out rfl
            subst hc1
            go_wp2_with fail
            refine (HPA.out [] _ 0 _ _ (.inl rfl) rfl (Nat.zero_le _) HT9.out (fun k hk => by simp at hk)).mono ?_
            rintro e w10 ⟨b10, rfl, hp10, hb10⟩
            have HP10 := Lib.hid hp10
            have HB10 := Lib.hid (HB9.out.keep hb10)
            have HA10 := Lib.hid (HA9.out.keep hb10)
            have HT10 := Lib.hid (HT9.out.keep hb10)
            have HX10 := Lib.hid (HX9.out.keep hb10)
            have HY10 := Lib.hid (HY9.out.keep hb10)
            have HV10 := Lib.hid (HV9.out.keep hb10)
            have HW10 := Lib.hid (behind HW9.out hb10)
            clear hp10 hb10
            clear xb0 xb1 xb2 xb3 xX0 xX1 xX2 xX3 xY0 xY1 xY2 xY3
            obtain ⟨xb0, xb1, xb2, xb3⟩ := HB10.out.box
            obtain ⟨xA0, xA1, xA2, xA3⟩ := HA10.out.box
            obtain ⟨xX0, xX1, xX2, xX3⟩ := HX10.out.cells
            obtain ⟨xY0, xY1, xY2, xY3⟩ := HY10.out.cells
            cases b10 with
            | false =>
              go_wp2_with fail
              go_ret
              exact .no HW10.out
            | true =>
              go_wp2_with fail
              refine (returns_any g _ _ _ _ _ _ _ _ HX10.out.nv HT10.out HD0.out HG0.out).mono ?_
              rintro e w11 ⟨b11, rfl, _, hb11⟩
              have HB11 := Lib.hid (HB10.out.keep hb11)
              have HA11 := Lib.hid (HA10.out.keep hb11)
              have HT11 := Lib.hid (HT10.out.keep hb11)
              have HX11 := Lib.hid (HX10.out.keep hb11)
              have HY11 := Lib.hid (HY10.out.keep hb11)
              have HV11 := Lib.hid (HV10.out.keep hb11)
              have HW11 := Lib.hid (behind HW10.out hb11)
              clear hb11
              clear xb0 xb1 xb2 xb3 xA0 xA1 xA2 xA3 xX0 xX1 xX2 xX3 xY0 xY1 xY2 xY3
              obtain ⟨xb0, xb1, xb2, xb3⟩ := HB11.out.box
              obtain ⟨xA0, xA1, xA2, xA3⟩ := HA11.out.box
              obtain ⟨xX0, xX1, xX2, xX3⟩ := HX11.out.cells
              obtain ⟨xY0, xY1, xY2, xY3⟩ := HY11.out.cells
              cases b11 with
              | true =>
                go_wp2_with fail
                refine (HRT.out.at HY11.out HT11.out HDR.out).mono ?_
                rintro e w12 ⟨b12, rfl, hp12, hb12⟩
                have HP12 := Lib.hid hp12
                have HB12 := Lib.hid (HB11.out.keep hb12)
                have HA12 := Lib.hid (HA11.out.keep hb12)
                have HT12 := Lib.hid (HT11.out.keep hb12)
                have HX12 := Lib.hid (HX11.out.keep hb12)
                have HY12 := Lib.hid (HY11.out.keep hb12)
                have HV12 := Lib.hid (HV11.out.keep hb12)
                have HW12 := Lib.hid (behind HW11.out hb12)
                clear hp12 hb12
                clear xb0 xb1 xb2 xb3 xA0 xA1 xA2 xA3 xX0 xX1 xX2 xX3 xY0 xY1 xY2 xY3
                obtain ⟨xb0, xb1, xb2, xb3⟩ := HB12.out.box
                obtain ⟨xA0, xA1, xA2, xA3⟩ := HA12.out.box
                obtain ⟨xX0, xX1, xX2, xX3⟩ := HX12.out.cells
                obtain ⟨xY0, xY1, xY2, xY3⟩ := HY12.out.cells
                cases b12 with
                | false =>
                  go_wp2_with fail
                  go_ret
                  exact .no HW12.out
                | true =>
                  go_wp2_with fail
                  refine ((turned_any g).toWk.at HY12.out HT12.out HDR.out).mono ?_
                  rintro e w13 ⟨b13, rfl, hp13, hb13⟩
                  have HP13 := Lib.hid hp13
                  have HB13 := Lib.hid (HB12.out.keep hb13)
                  have HA13 := Lib.hid (HA12.out.keep hb13)
                  have HT13 := Lib.hid (HT12.out.keep hb13)
                  have HX13 := Lib.hid (HX12.out.keep hb13)
                  have HY13 := Lib.hid (HY12.out.keep hb13)
                  have HV13 := Lib.hid (HV12.out.keep hb13)
                  have HW13 := Lib.hid (behind HW12.out hb13)
                  clear hp13 hb13
                  clear xb0 xb1 xb2 xb3 xA0 xA1 xA2 xA3 xX0 xX1 xX2 xX3 xY0 xY1 xY2 xY3
                  obtain ⟨xb0, xb1, xb2, xb3⟩ := HB13.out.box
                  obtain ⟨xA0, xA1, xA2, xA3⟩ := HA13.out.box
                  obtain ⟨xX0, xX1, xX2, xX3⟩ := HX13.out.cells
                  obtain ⟨xY0, xY1, xY2, xY3⟩ := HY13.out.cells
                  go_wp2_with fail
                  all_goals (go_ret; exact .yes (⟨eq_list qTyped, .two (memK qTyped (by simp [twoK])) HG0.out (.func (eq_list qfFunctionType) (HP12.out (by simp)) (HP10.out (by simp)))⟩) HW13.out)
              | false =>
                go_wp2_with fail
                refine (same_any g r0 _ _ _ _ _ _ _ _ _ _ _ _ _ _ HY11.out.nv (nv_empty _) HDR.out).mono ?_
                rintro e w12 ⟨b12, rfl, hp12, hb12⟩
                have HP12 := Lib.hid hp12
                have HW12 := Lib.hid (behind HW11.out hb12)
                clear hp12 hb12
                go_wp2_with fail
                go_ret
                exact ⟨_, rfl, fun hb => ⟨eq_list qTyped, .two (memK qTyped (by simp [twoK])) HG0.out (.proc (eq_list qfFunctionType) (HY11.out.nv.kindOf.trans (HP12.out hb).1) (HP10.out (by simp)))⟩, HW12.out⟩
          · skip
            go_wp2_with fail
            refine (HPA.out rs _ m _ _ HV9.out HM9.out HL9.out HT9.out HDS.out).mono ?_
            rintro e w10 ⟨b10, rfl, hp10, hb10⟩
            have HP10 := Lib.hid hp10
            have HB10 := Lib.hid (HB9.out.keep hb10)
            have HA10 := Lib.hid (HA9.out.keep hb10)
            have HT10 := Lib.hid (HT9.out.keep hb10)
            have HX10 := Lib.hid (HX9.out.keep hb10)
            have HY10 := Lib.hid (HY9.out.keep hb10)
            have HV10 := Lib.hid (HV9.out.keep hb10)
            have HW10 := Lib.hid (behind HW9.out hb10)
            clear hp10 hb10
            clear xb0 xb1 xb2 xb3 xX0 xX1 xX2 xX3 xY0 xY1 xY2 xY3
            obtain ⟨xb0, xb1, xb2, xb3⟩ := HB10.out.box
            obtain ⟨xA0, xA1, xA2, xA3⟩ := HA10.out.box
            obtain ⟨xX0, xX1, xX2, xX3⟩ := HX10.out.cells
            obtain ⟨xY0, xY1, xY2, xY3⟩ := HY10.out.cells
            cases b10 with
            | false =>
              go_wp2_with fail
              go_ret
              exact .no HW10.out
            | true =>
              go_wp2_with fail
              refine (returns_any g _ _ _ _ _ _ _ _ HX10.out.nv HT10.out HD0.out HG0.out).mono ?_
              rintro e w11 ⟨b11, rfl, _, hb11⟩
              have HB11 := Lib.hid (HB10.out.keep hb11)
              have HA11 := Lib.hid (HA10.out.keep hb11)
              have HT11 := Lib.hid (HT10.out.keep hb11)
              have HX11 := Lib.hid (HX10.out.keep hb11)
              have HY11 := Lib.hid (HY10.out.keep hb11)
              have HV11 := Lib.hid (HV10.out.keep hb11)
              have HW11 := Lib.hid (behind HW10.out hb11)
              clear hb11
              clear xb0 xb1 xb2 xb3 xA0 xA1 xA2 xA3 xX0 xX1 xX2 xX3 xY0 xY1 xY2 xY3
              obtain ⟨xb0, xb1, xb2, xb3⟩ := HB11.out.box
              obtain ⟨xA0, xA1, xA2, xA3⟩ := HA11.out.box
              obtain ⟨xX0, xX1, xX2, xX3⟩ := HX11.out.cells
              obtain ⟨xY0, xY1, xY2, xY3⟩ := HY11.out.cells
              cases b11 with
              | true =>
                go_wp2_with fail
                refine (HRT.out.at HY11.out HT11.out HDR.out).mono ?_
                rintro e w12 ⟨b12, rfl, hp12, hb12⟩
                have HP12 := Lib.hid hp12
                have HB12 := Lib.hid (HB11.out.keep hb12)
                have HA12 := Lib.hid (HA11.out.keep hb12)
                have HT12 := Lib.hid (HT11.out.keep hb12)
                have HX12 := Lib.hid (HX11.out.keep hb12)
                have HY12 := Lib.hid (HY11.out.keep hb12)
                have HV12 := Lib.hid (HV11.out.keep hb12)
                have HW12 := Lib.hid (behind HW11.out hb12)
                clear hp12 hb12
                clear xb0 xb1 xb2 xb3 xA0 xA1 xA2 xA3 xX0 xX1 xX2 xX3 xY0 xY1 xY2 xY3
                obtain ⟨xb0, xb1, xb2, xb3⟩ := HB12.out.box
                obtain ⟨xA0, xA1, xA2, xA3⟩ := HA12.out.box
                obtain ⟨xX0, xX1, xX2, xX3⟩ := HX12.out.cells
                obtain ⟨xY0, xY1, xY2, xY3⟩ := HY12.out.cells
                cases b12 with
                | false =>
                  go_wp2_with fail
                  go_ret
                  exact .no HW12.out
                | true =>
                  go_wp2_with fail
                  refine ((turned_any g).toWk.at HY12.out HT12.out HDR.out).mono ?_
                  rintro e w13 ⟨b13, rfl, hp13, hb13⟩
                  have HP13 := Lib.hid hp13
                  have HB13 := Lib.hid (HB12.out.keep hb13)
                  have HA13 := Lib.hid (HA12.out.keep hb13)
                  have HT13 := Lib.hid (HT12.out.keep hb13)
                  have HX13 := Lib.hid (HX12.out.keep hb13)
                  have HY13 := Lib.hid (HY12.out.keep hb13)
                  have HV13 := Lib.hid (HV12.out.keep hb13)
                  have HW13 := Lib.hid (behind HW12.out hb13)
                  clear hp13 hb13
                  clear xb0 xb1 xb2 xb3 xA0 xA1 xA2 xA3 xX0 xX1 xX2 xX3 xY0 xY1 xY2 xY3
                  obtain ⟨xb0, xb1, xb2, xb3⟩ := HB13.out.box
                  obtain ⟨xA0, xA1, xA2, xA3⟩ := HA13.out.box
                  obtain ⟨xX0, xX1, xX2, xX3⟩ := HX13.out.cells
                  obtain ⟨xY0, xY1, xY2, xY3⟩ := HY13.out.cells
                  go_wp2_with fail
                  all_goals (go_ret; exact .yes (⟨eq_list qTyped, .two (memK qTyped (by simp [twoK])) HG0.out (.func (eq_list qfFunctionType) (HP12.out (by simp)) (HP10.out (by simp)))⟩) HW13.out)
              | false =>
                go_wp2_with fail
                refine (same_any g r0 _ _ _ _ _ _ _ _ _ _ _ _ _ _ HY11.out.nv (nv_empty _) HDR.out).mono ?_
                rintro e w12 ⟨b12, rfl, hp12, hb12⟩
                have HP12 := Lib.hid hp12
                have HW12 := Lib.hid (behind HW11.out hb12)
                clear hp12 hb12
                go_wp2_with fail
                go_ret
                exact ⟨_, rfl, fun hb => ⟨eq_list qTyped, .two (memK qTyped (by simp [twoK])) HG0.out (.proc (eq_list qfFunctionType) (HY11.out.nv.kindOf.trans (HP12.out hb).1) (HP10.out (by simp)))⟩, HW12.out⟩
        · go_wp2_with fail
          all_goals (go_ret; exact .no (behind HW2.out (below_new _ _)))
  go_enter Tryz.func11, Tryz.ntmps11
  go_wp2_with fail
  go_ret
  exact .no HW0.out

set_option maxRecDepth 100000 in
set_option maxHeartbeats 8000000 in
theorem isMethodFn_any (d : Nat) : Wk 12 Good (d + 1) := by
  intro t kind text num a n cap w h ht hd
  have hcap := h.cap
  obtain ⟨kids, rfl, hz1, hz2, hn, hm, hk⟩ := h.kids
  have HD := Lib.hid (show ∀ k ∈ kids, Dep d k from hd)
  have HDT := Lib.hid hd
  have HZ1 := Lib.hid hz1
  have HZ2 := Lib.hid hz2
  have HM := Lib.hid hm
  unfold maxLen at hz1 hz2 hm
  have HB0 := Lib.hid (box_at h)
  have HT0 := Lib.hid (ht.keep (below_new w (.cells #[.string kind, .string text, .int .i64 num, .slice a n cap] 24)))
  have HK0 := Lib.hid (hk.keep (below_new w (.cells #[.string kind, .string text, .int .i64 num, .slice a n cap] 24)))
  have HW0 := Lib.hid (below_new w (.cells #[.string kind, .string text, .int .i64 num, .slice a n cap] 24))
  have HN := Lib.hid hn
  clear hk h ht hd hn
  clear hcap hz1 hz2 hm
  go_enter Tryz.func12, Tryz.ntmps12
  go_wp2_with fail
  refine ((isMethod_any d).at HB0.out HT0.out HDT.out).mono ?_
  rintro e w1 ⟨b1, rfl, hp1, hb1⟩
  have HP1 := Lib.hid hp1
  have HB1 := Lib.hid (HB0.out.keep hb1)
  have HT1 := Lib.hid (HT0.out.keep hb1)
  have HK1 := Lib.hid (HK0.out.keep hb1)
  have HW1 := Lib.hid (behind HW0.out hb1)
  clear hp1 hb1
  obtain ⟨xb0, xb1, xb2, xb3⟩ := HB1.out.box
  cases b1 with
  | false =>
    go_wp2_with fail
    go_ret
    exact .no HW1.out
  | true =>
    obtain ⟨ek, k0, k1, e2, hq⟩ := HP1.out (by simp)
    simp [NT.kids] at e2
    subst e2
    have HQL := Lib.hid hq
    have HEK := Lib.hid ek
    clear hq ek
    obtain rfl : n = 2 := HN.out
    obtain ⟨b, off, kd0, tx0, nm0, a0, n0, cap0, kd1, tx1, nm1, a1, n1, cap1, rfl, hx, hy⟩ := HK1.out.two
    have HX1 := Lib.hid hx
    have HY1 := Lib.hid hy
    clear hx hy
    clear xb0 xb1 xb2 xb3
    obtain ⟨xb0, xb1, xb2, xb3⟩ := HB1.out.box
    obtain ⟨xX0, xX1, xX2, xX3⟩ := HX1.out.cells
    obtain ⟨xY0, xY1, xY2, xY3⟩ := HY1.out.cells
    go_wp2_with fail
    refine ((isFunction_any d).mono.at HX1.out HT1.out (HD.out k0 (by simp))).mono ?_
    rintro e w2 ⟨b2, rfl, hp2, hb2⟩
    have HP2 := Lib.hid hp2
    have HB2 := Lib.hid (HB1.out.keep hb2)
    have HT2 := Lib.hid (HT1.out.keep hb2)
    have HX2 := Lib.hid (HX1.out.keep hb2)
    have HY2 := Lib.hid (HY1.out.keep hb2)
    have HW2 := Lib.hid (behind HW1.out hb2)
    clear hp2 hb2
    clear xb0 xb1 xb2 xb3 xX0 xX1 xX2 xX3 xY0 xY1 xY2 xY3
    obtain ⟨xb0, xb1, xb2, xb3⟩ := HB2.out.box
    obtain ⟨xX0, xX1, xX2, xX3⟩ := HX2.out.cells
    obtain ⟨xY0, xY1, xY2, xY3⟩ := HY2.out.cells
    cases b2 with
    | false =>
      go_wp2_with fail
      go_ret
      exact .no HW2.out
    | true =>
      obtain ⟨ekf, hgf⟩ := HP2.out (by simp)
      have HGF := Lib.hid hgf
      obtain ⟨ks2, ek2, _, _, hn2, _, hk2⟩ := HX2.out.nv.kids
      subst ek2
      have ekd : kd0 = ⟨#[84, 121, 112, 101, 100]⟩ := HX2.out.nv.kindOf.symm.trans ekf
      obtain ⟨l0, l1, rfl, hgl, _⟩ := good_two hgf (by rw [ekd]; simp [twoK])
      obtain rfl : n0 = 2 := hn2
      have HEF := Lib.hid ekd
      have HGL := Lib.hid hgl
      clear hgf ekf ekd hgl
      obtain ⟨b2, off2, kd2, tx2, nm2, a2, n2, cap2, _, _, _, _, _, _, rfl, hy, _⟩ := hk2.two
      have HZ2x := Lib.hid hy
      clear hy hk2
      have HD0 := Lib.hid (HD.out (.mk kd0 tx0 nm0 [l0, l1]) (by simp))
      obtain ⟨g, rfl⟩ : ∃ g, d = g + 1 := by cases d with | zero => exact absurd HD0.out id | succ g => exact ⟨g, rfl⟩
      have HDL := Lib.hid (show Dep g l0 from HD0.out l0 (by simp))
      obtain ⟨y0, y1, y2, y3⟩ := HZ2x.out.cells
      go_wp2_with fail
      refine (inScope_any g _ _ _ _ _ _ _ _ HZ2x.out.nv HT2.out HDL.out.mono HGL.out).mono ?_
      rintro e w3 ⟨b3, rfl, _, hb3⟩
      have HW3 := Lib.hid (behind HW2.out hb3)
      clear hb3
      go_wp2_with fail
      all_goals (go_ret; exact .yes (.qual (by rw [show kind = _ from HEK.out]; simp [qualK]) HGF.out HQL.out) HW3.out)

set_option maxRecDepth 100000 in
set_option maxHeartbeats 4000000 in
theorem isEncoding_any (d : Nat) : Wk 6 Good (d + 1) := by
  intro t kind text num a n cap w h ht hd
  have hcap := h.cap
  obtain ⟨kids, rfl, hz1, hz2, hn, hm, hk⟩ := h.kids
  have HD := Lib.hid (show ∀ k ∈ kids, Dep d k from hd)
  have HDT := Lib.hid hd
  have HZ1 := Lib.hid hz1
  have HZ2 := Lib.hid hz2
  have HM := Lib.hid hm
  unfold maxLen at hz1 hz2 hm
  have HB0 := Lib.hid (box_at h)
  have HT0 := Lib.hid (ht.keep (below_new w (.cells #[.string kind, .string text, .int .i64 num, .slice a n cap] 24)))
  have HK0 := Lib.hid (hk.keep (below_new w (.cells #[.string kind, .string text, .int .i64 num, .slice a n cap] 24)))
  have HW0 := Lib.hid (below_new w (.cells #[.string kind, .string text, .int .i64 num, .slice a n cap] 24))
  have HN := Lib.hid hn
  clear hk h ht hd hn
  clear hcap hz1 hz2 hm
  go_enter Tryz.func6, Tryz.ntmps6
  go_wp2_with fail
  refine ((isFunction_any d).at HB0.out HT0.out HDT.out).mono ?_
  rintro e w1 ⟨b1, rfl, hp1, hb1⟩
  have HP1 := Lib.hid hp1
  have HB1 := Lib.hid (HB0.out.keep hb1)
  have HT1 := Lib.hid (HT0.out.keep hb1)
  have HK1 := Lib.hid (HK0.out.keep hb1)
  have HW1 := Lib.hid (behind HW0.out hb1)
  clear hp1 hb1
  obtain ⟨xb0, xb1, xb2, xb3⟩ := HB1.out.box
  cases b1 with
  | true =>
    go_wp2_with fail
    go_ret
    exact .yes ((HP1.out (by simp)).2) HW1.out
  | false =>
    go_wp2_with fail
    refine ((isMethodFn_any d).at HB1.out HT1.out HDT.out).mono ?_
    rintro e w2 ⟨b2, rfl, hp2, hb2⟩
    have HP2 := Lib.hid hp2
    have HB2 := Lib.hid (HB1.out.keep hb2)
    have HT2 := Lib.hid (HT1.out.keep hb2)
    have HK2 := Lib.hid (HK1.out.keep hb2)
    have HW2 := Lib.hid (behind HW1.out hb2)
    clear hp2 hb2
    clear xb0 xb1 xb2 xb3
    obtain ⟨xb0, xb1, xb2, xb3⟩ := HB2.out.box
    cases b2 with
    | true =>
      go_wp2_with fail
      go_ret
      exact .yes (HP2.out (by simp)) HW2.out
    | false =>
      go_wp2_with fail
      refine ((types_any (d + 1)).1.at HB2.out HT2.out HDT.out).mono ?_
      rintro e w3 ⟨b3, rfl, hp3, hb3⟩
      have HP3 := Lib.hid hp3
      have HB3 := Lib.hid (HB2.out.keep hb3)
      have HT3 := Lib.hid (HT2.out.keep hb3)
      have HK3 := Lib.hid (HK2.out.keep hb3)
      have HW3 := Lib.hid (behind HW2.out hb3)
      clear hp3 hb3
      clear xb0 xb1 xb2 xb3
      obtain ⟨xb0, xb1, xb2, xb3⟩ := HB3.out.box
      cases b3 with
      | false =>
        go_wp2_with fail
        go_ret
        exact .no HW3.out
      | true =>
        go_wp2_with fail
        go_ret
        exact .yes (HP3.out (by simp)) HW3.out

end Go.Proofs.YtdlhhdhooacogaaGreatDoor

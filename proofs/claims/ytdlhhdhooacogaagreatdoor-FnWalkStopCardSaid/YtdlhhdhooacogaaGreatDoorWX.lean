/-
  IsMaker.
-/
import Derived.Test.YtdlhhdhooacogaaGreatDoorWW
import Derived.BigRegion
import Derived.Deep.RegionWith
namespace Go.Proofs.YtdlhhdhooacogaaGreatDoor
open Go.RowKit

set_option maxRecDepth 100000 in
set_option maxHeartbeats 16000000 in
theorem isMaker_any (d : Nat) : Wk 36 Good (d + 1) := by
  intro t kind text num a n cap w h ht hd
  have hcap := h.cap
  obtain ⟨kids, rfl, hz1, hz2, hn, hm, hk⟩ := h.kids
  have HD := Lib.hid (show ∀ k ∈ kids, Dep d k from hd)
  have HDT := Lib.hid hd
  have HZ1 := Lib.hid hz1
  have HZ2 := Lib.hid hz2
  have HM := Lib.hid hm
  unfold maxLen at hz1 hz2 hm
  have HB0 := Lib.hid (box_at h)
  have HT0 := Lib.hid (ht.keep (below_new w (.cells #[.string kind, .string text, .int .i64 num, .slice a n cap] 24)))
  have HK0 := Lib.hid (hk.keep (below_new w (.cells #[.string kind, .string text, .int .i64 num, .slice a n cap] 24)))
  have HW0 := Lib.hid (below_new w (.cells #[.string kind, .string text, .int .i64 num, .slice a n cap] 24))
  have HN := Lib.hid hn
  clear hk h ht hd hn
  clear hcap hm hz1 hz2
  rcases bt (kind.toList == [81, 117, 97, 108, 105, 102, 105, 101, 100]) with qQualified | qQualified
  · go_enter Tryz.func36, Tryz.ntmps36
    go_wp2_with fail
    refine (plain_any _ _ _ _ _ _ 2 _).mono ?_
    rintro e w1 ⟨b1, rfl, hp1, hb1⟩
    have HP1 := Lib.hid hp1
    have HB1 := Lib.hid (HB0.out.keep hb1)
    have HT1 := Lib.hid (HT0.out.keep hb1)
    have HK1 := Lib.hid (HK0.out.keep hb1)
    have HW1 := Lib.hid (behind HW0.out hb1)
    clear hp1 hb1
    obtain ⟨xb0, xb1, xb2, xb3⟩ := HB1.out.box
    cases b1 with
    | false =>
      go_wp2_with fail
      go_ret
      exact .no HW1.out
    | true =>
      obtain ⟨k0, k1, rfl⟩ := two_of HN.out (HP1.out (by simp))
      obtain rfl := HP1.out (by simp)
      obtain ⟨b, off, kd0, tx0, nm0, a0, n0, cap0, kd1, tx1, nm1, a1, n1, cap1, rfl, hx, hy⟩ := HK1.out.two
      have HX1 := Lib.hid hx
      have HY1 := Lib.hid hy
      clear hx hy
      clear xb0 xb1 xb2 xb3
      obtain ⟨xb0, xb1, xb2, xb3⟩ := HB1.out.box
      obtain ⟨xX0, xX1, xX2, xX3⟩ := HX1.out.cells
      obtain ⟨xY0, xY1, xY2, xY3⟩ := HY1.out.cells
      have HD0 := Lib.hid (HD.out k0 (by simp))
      obtain ⟨g, rfl⟩ : ∃ g, d = g + 1 := by cases d with | zero => exact absurd HD0.out id | succ g => exact ⟨g, rfl⟩
      go_wp2_with fail
      refine ((types_any (g + 1)).1.at HX1.out HT1.out HD0.out).mono ?_
      rintro e w2 ⟨b2, rfl, hp2, hb2⟩
      have HP2 := Lib.hid hp2
      have HB2 := Lib.hid (HB1.out.keep hb2)
      have HT2 := Lib.hid (HT1.out.keep hb2)
      have HX2 := Lib.hid (HX1.out.keep hb2)
      have HY2 := Lib.hid (HY1.out.keep hb2)
      have HW2 := Lib.hid (behind HW1.out hb2)
      clear hp2 hb2
      clear xb0 xb1 xb2 xb3 xX0 xX1 xX2 xX3 xY0 xY1 xY2 xY3
      obtain ⟨xb0, xb1, xb2, xb3⟩ := HB2.out.box
      obtain ⟨xX0, xX1, xX2, xX3⟩ := HX2.out.cells
      obtain ⟨xY0, xY1, xY2, xY3⟩ := HY2.out.cells
      cases b2 with
      | false =>
        go_wp2_with fail
        go_ret
        exact .no HW2.out
      | true =>
        have HG0 := Lib.hid (HP2.out (by simp))
        go_wp2_with fail
        refine (isShort_any g _ _ _ _ _ _ _ _ HX2.out.nv HT2.out HD0.out HG0.out).mono ?_
        rintro e w3 ⟨b3, rfl, hp3, hb3⟩
        have HP3 := Lib.hid hp3
        have HB3 := Lib.hid (HB2.out.keep hb3)
        have HT3 := Lib.hid (HT2.out.keep hb3)
        have HX3 := Lib.hid (HX2.out.keep hb3)
        have HY3 := Lib.hid (HY2.out.keep hb3)
        have HW3 := Lib.hid (behind HW2.out hb3)
        clear hp3 hb3
        clear xb0 xb1 xb2 xb3 xX0 xX1 xX2 xX3 xY0 xY1 xY2 xY3
        obtain ⟨xb0, xb1, xb2, xb3⟩ := HB3.out.box
        obtain ⟨xX0, xX1, xX2, xX3⟩ := HX3.out.cells
        obtain ⟨xY0, xY1, xY2, xY3⟩ := HY3.out.cells
        cases b3 with
        | true =>
          go_wp2_with fail
          go_ret
          exact .no HW3.out
        | false =>
          go_wp2_with fail
          refine ((isStd_any (g + 1)).at HX3.out HT3.out HD0.out).mono ?_
          rintro e w4 ⟨b4, rfl, hp4, hb4⟩
          have HP4 := Lib.hid hp4
          have HB4 := Lib.hid (HB3.out.keep hb4)
          have HT4 := Lib.hid (HT3.out.keep hb4)
          have HX4 := Lib.hid (HX3.out.keep hb4)
          have HY4 := Lib.hid (HY3.out.keep hb4)
          have HW4 := Lib.hid (behind HW3.out hb4)
          clear hp4 hb4
          clear xb0 xb1 xb2 xb3 xX0 xX1 xX2 xX3 xY0 xY1 xY2 xY3
          obtain ⟨xb0, xb1, xb2, xb3⟩ := HB4.out.box
          obtain ⟨xX0, xX1, xX2, xX3⟩ := HX4.out.cells
          obtain ⟨xY0, xY1, xY2, xY3⟩ := HY4.out.cells
          cases b4 with
          | true =>
            go_wp2_with fail
            go_ret
            exact .no HW4.out
          | false =>
            have HA4 := HB4
            rcases bt (kd1.toList == [67, 111, 110, 115, 116, 114, 117, 99, 116, 111, 114]) with qfConstructor | qfConstructor
            · go_wp2_with fail
              have HB9 := Lib.hid (box_at HY4.out.nv)
              have HT9 := Lib.hid (HT4.out.keep (below_new w4 (.cells #[.string kd1, .string tx1, .int .i64 nm1, .slice a1 n1 cap1] 24)))
              have HW9 := Lib.hid (behind HW4.out (below_new w4 (.cells #[.string kd1, .string tx1, .int .i64 nm1, .slice a1 n1 cap1] 24)))
              have HA9 := Lib.hid (HA4.out.keep (below_new w4 (.cells #[.string kd1, .string tx1, .int .i64 nm1, .slice a1 n1 cap1] 24)))
              have HX9 := Lib.hid (HX4.out.keep (below_new w4 (.cells #[.string kd1, .string tx1, .int .i64 nm1, .slice a1 n1 cap1] 24)))
              obtain ⟨ks1, ek1, _, _, hn9, _, hk9⟩ := HY4.out.nv.kids
              have HK9 := Lib.hid (hk9.keep (below_new w4 (.cells #[.string kd1, .string tx1, .int .i64 nm1, .slice a1 n1 cap1] 24)))
              have HN9 := Lib.hid hn9
              have HD9 := Lib.hid (HD.out k1 (by simp))
              subst ek1
              clear hn9 hk9
              clear xb0 xb1 xb2 xb3 xX0 xX1 xX2 xX3 xY0 xY1 xY2 xY3
              refine (plain_any _ _ _ _ _ _ 1 _).mono ?_
              rintro e w10 ⟨b10, rfl, hp10, hb10⟩
              have HP10 := Lib.hid hp10
              have HB10 := Lib.hid (HB9.out.keep hb10)
              have HA10 := Lib.hid (HA9.out.keep hb10)
              have HT10 := Lib.hid (HT9.out.keep hb10)
              have HK10 := Lib.hid (HK9.out.keep hb10)
              have HX10 := Lib.hid (HX9.out.keep hb10)
              have HW10 := Lib.hid (behind HW9.out hb10)
              clear hp10 hb10
              obtain ⟨xb0, xb1, xb2, xb3⟩ := HB10.out.box
              obtain ⟨xA0, xA1, xA2, xA3⟩ := HA10.out.box
              obtain ⟨xX0, xX1, xX2, xX3⟩ := HX10.out.cells
              cases b10 with
              | false =>
                go_wp2_with fail
                go_ret
                exact .no HW10.out
              | true =>
                obtain ⟨k2, rfl⟩ := one_of HN9.out (HP10.out (by simp))
                obtain rfl := HP10.out (by simp)
                obtain ⟨b2, off2, kd2, tx2, nm2, a2, n2, cap2, rfl, hx⟩ := HK10.out.one
                have HY10 := Lib.hid hx
                clear hx
                clear xb0 xb1 xb2 xb3 xA0 xA1 xA2 xA3 xX0 xX1 xX2 xX3
                obtain ⟨xb0, xb1, xb2, xb3⟩ := HB10.out.box
                obtain ⟨xA0, xA1, xA2, xA3⟩ := HA10.out.box
                obtain ⟨xX0, xX1, xX2, xX3⟩ := HX10.out.cells
                obtain ⟨xY0, xY1, xY2, xY3⟩ := HY10.out.cells
                go_wp2_with fail
                refine (last_any (g + 1) _ _ _ _ _ _ _ _ HX10.out.nv HD0.out HG0.out).mono ?_
                rintro e w11 ⟨t2, kdn, txn, nmn, an, nn, capn, rfl, hdn, hgn, hnvn, hb11⟩
                have HB11 := Lib.hid (HB10.out.keep hb11)
                have HA11 := Lib.hid (HA10.out.keep hb11)
                have HT11 := Lib.hid (HT10.out.keep hb11)
                have HX11 := Lib.hid (HX10.out.keep hb11)
                have HY11 := Lib.hid (HY10.out.keep hb11)
                have HW11 := Lib.hid (behind HW10.out hb11)
                have HNN := Lib.hid (hnvn.keep hb11)
                have HDN := Lib.hid hdn
                have HGN := Lib.hid hgn
                clear hdn hgn hnvn hb11
                clear xb0 xb1 xb2 xb3 xA0 xA1 xA2 xA3 xX0 xX1 xX2 xX3 xY0 xY1 xY2 xY3
                obtain ⟨xb0, xb1, xb2, xb3⟩ := HB11.out.box
                obtain ⟨xA0, xA1, xA2, xA3⟩ := HA11.out.box
                obtain ⟨xX0, xX1, xX2, xX3⟩ := HX11.out.cells
                obtain ⟨xY0, xY1, xY2, xY3⟩ := HY11.out.cells
                go_wp2_with fail
                have HB12 := Lib.hid (HB11.out.keep (below_new w11 (.cells #[.string kdn, .string txn, .int .i64 nmn, .slice an nn capn] 24)))
                have HA12 := Lib.hid (HA11.out.keep (below_new w11 (.cells #[.string kdn, .string txn, .int .i64 nmn, .slice an nn capn] 24)))
                have HT12 := Lib.hid (HT11.out.keep (below_new w11 (.cells #[.string kdn, .string txn, .int .i64 nmn, .slice an nn capn] 24)))
                have HX12 := Lib.hid (HX11.out.keep (below_new w11 (.cells #[.string kdn, .string txn, .int .i64 nmn, .slice an nn capn] 24)))
                have HY12 := Lib.hid (HY11.out.keep (below_new w11 (.cells #[.string kdn, .string txn, .int .i64 nmn, .slice an nn capn] 24)))
                have HW12 := Lib.hid (behind HW11.out (below_new w11 (.cells #[.string kdn, .string txn, .int .i64 nmn, .slice an nn capn] 24)))
                have HM12 := Lib.hid (box_at HNN.out)
                clear xb0 xb1 xb2 xb3 xA0 xA1 xA2 xA3 xX0 xX1 xX2 xX3 xY0 xY1 xY2 xY3
                generalize w11.heap.size = NB at *
                generalize (w11.alloc (.cells #[.string kdn, .string txn, .int .i64 nmn, .slice an nn capn] 24)) = w12 at *
                obtain ⟨xb0, xb1, xb2, xb3⟩ := HB12.out.box
                obtain ⟨xA0, xA1, xA2, xA3⟩ := HA12.out.box
                obtain ⟨xM0, xM1, xM2, xM3⟩ := HM12.out.box
                obtain ⟨xX0, xX1, xX2, xX3⟩ := HX12.out.cells
                obtain ⟨xY0, xY1, xY2, xY3⟩ := HY12.out.cells
                rcases bt (kdn.toList == [78, 97, 109, 101]) with qfName | qfName
                · have HCG := Lib.hid (show kdn = kd2 ∧ nn = n2 → Good k2 by
                    rintro ⟨e1, e2⟩
                    obtain ⟨ks, et, _, _, en, _, _⟩ := HM12.out.nv.kids
                    have hg := HGN.out
                    rw [et] at hg
                    have h0 := good_leaf hg (memK qfName (by simp [leafK]))
                    subst h0
                    have hn2 : n2 = 0 := by rw [← e2, en]; rfl
                    have hv := HY12.out.nv
                    rw [hn2] at hv
                    exact hv.leaf (by rw [← e1]; exact memK qfName (by simp [leafK])))
                  have HM13 := Lib.hid (HM12.out.keep (Below.refl _ w12).drew)
                  have HY13 := Lib.hid (HY12.out.keep (Below.refl _ w12).drew)
                  go_region_with (first
                    | (go_at_call 23; refine (same_any (g + 1) _ _ _ _ _ _ _ _ _ _ _ _ _ _ _ HM13.out.nv HY13.out.nv HDN.out).mono ?_; rintro e w14 ⟨b14, rfl, hp14, hb14⟩
                       have hb14 := undrew hb14
                       have HP14 := Lib.hid hp14
                       have HA14 := Lib.hid (HA12.out.keep hb14)
                       have HX14 := Lib.hid (HX12.out.keep hb14)
                       have HW14 := Lib.hid (behind HW12.out hb14)
                       obtain ⟨yA0, yA1, yA2, yA3⟩ := HA14.out.box
                       obtain ⟨yX0, yX1, yX2, yX3⟩ := HX14.out.cells
                       clear hp14 hb14 xb0 xb1 xb2 xb3 xA0 xA1 xA2 xA3 xM0 xM1 xM2 xM3 xX0 xX1 xX2 xX3 xY0 xY1 xY2 xY3
                       cases b14
                       · go_wp2_with fail
                         refine wpAny_take (i := 10) (v := .bool false) rfl (by kernel_rfl) (by kernel_rfl) (by kernel_rfl) (fun _ _ _ h => h) (.inl ⟨by kernel_rfl, fun _ => by kernel_rfl⟩) ?_
                         refine wpAny_take (i := 11) (v := .bool false) rfl (by kernel_rfl) (by kernel_rfl) (by kernel_rfl) (fun _ _ _ h => h) (.inl ⟨by kernel_rfl, fun _ => by kernel_rfl⟩) ?_
                         refine wpAny_take (i := 12) (v := undef) rfl (by kernel_rfl) (by kernel_rfl) (by kernel_rfl) (fun _ _ _ h => h) (.inr ⟨by kernel_rfl, rfl⟩) ?_
                         refine wpAny_take (i := 13) (v := undef) rfl (by kernel_rfl) (by kernel_rfl) (by kernel_rfl) (fun _ _ _ h => h) (.inr ⟨by kernel_rfl, rfl⟩) ?_
                         refine wpAny_take (i := 14) (v := undef) rfl (by kernel_rfl) (by kernel_rfl) (by kernel_rfl) (fun _ _ _ h => h) (.inr ⟨by kernel_rfl, rfl⟩) ?_
                         refine wpAny_take (i := 15) (v := undef) rfl (by kernel_rfl) (by kernel_rfl) (by kernel_rfl) (fun _ _ _ h => h) (.inr ⟨by kernel_rfl, rfl⟩) ?_
                         refine wpAny_take (i := 16) (v := undef) rfl (by kernel_rfl) (by kernel_rfl) (by kernel_rfl) (fun _ _ _ h => h) (.inr ⟨by kernel_rfl, rfl⟩) ?_
                         refine wpAny_take (i := 17) (v := undef) rfl (by kernel_rfl) (by kernel_rfl) (by kernel_rfl) (fun _ _ _ h => h) (.inr ⟨by kernel_rfl, rfl⟩) ?_
                         refine wpAny_take (i := 18) (v := undef) rfl (by kernel_rfl) (by kernel_rfl) (by kernel_rfl) (fun _ _ _ h => h) (.inr ⟨by kernel_rfl, rfl⟩) ?_
                         refine wpAny_take (i := 19) (v := .bool false) rfl (by kernel_rfl) (by kernel_rfl) (by kernel_rfl) (fun _ _ _ h => h) (.inl ⟨by kernel_rfl, fun _ => by kernel_rfl⟩) ?_
                         refine wpAny_take (i := 20) (v := .bool false) rfl (by kernel_rfl) (by kernel_rfl) (by kernel_rfl) (fun _ _ _ h => h) (.inl ⟨by kernel_rfl, fun _ => by kernel_rfl⟩) ?_
                         refine wpAny_done (by kernel_rfl) ?_ _
                         go_wp2_with fail
                         go_simp
                         go_ret
                         exact .no HW14.out)
                    | (go_at_call 47; refine (tail_any (g + 1) _ _ _ _ _ _ _ _ HX14.out.nv HD0.out HG0.out).mono ?_; rintro e w15 ⟨t3, kd3, tx3, nm3, a3, n3, cap3, rfl, hd3, _, hnv3, hb15⟩
                       have HN15 := Lib.hid (hnv3.keep hb15)
                       have HD15 := Lib.hid hd3
                       have HW15 := Lib.hid (behind HW14.out hb15)
                       clear hd3 hnv3 hb15 yA0 yA1 yA2 yA3 yX0 yX1 yX2 yX3)
                    | (go_at_call 46; refine (has_any (g + 1) _ _ _ _ _ _ _ _ _ HN15.out HD15.out).mono ?_; rintro e w16 ⟨b16, rfl, _, hb16⟩
                       have HW16 := Lib.hid (behind HW15.out hb16)
                       clear hb16))
                  all_goals
                    go_wp2_with fail
                    go_simp
                    go_ret
                    exact .yes (.two (memK qQualified (by simp [twoK])) HG0.out (.one (memK qfConstructor (by simp [oneK])) (HCG.out (HP14.out (by simp))))) HW16.out
                · refine wp_region_any (by kernel_rfl) ?_
                  change wpAny _ _ _ _ _ _ _ (World.drew _)
                  refine wpAny_ready (rs := [0]) (by kernel_rfl) (by simp) ?_
                  refine AllReady.cons rfl (fun K hK => ?_) AllReady.nil
                  go_simp
                  refine hK _ _ ?_
                  clear hK K
                  refine wpAny_ready (rs := [1]) (by kernel_rfl) (by simp) ?_
                  refine AllReady.cons rfl (fun K hK => ?_) AllReady.nil
                  go_simp
                  refine hK _ _ ?_
                  clear hK K
                  refine wpAny_ready (rs := [2]) (by kernel_rfl) (by simp) ?_
                  refine AllReady.cons rfl (fun K hK => ?_) AllReady.nil
                  go_simp
                  refine hK _ _ ?_
                  clear hK K
                  refine wpAny_ready (rs := [3]) (by kernel_rfl) (by simp) ?_
                  refine AllReady.cons rfl (fun K hK => ?_) AllReady.nil
                  go_simp
                  refine hK _ _ ?_
                  clear hK K
                  refine wpAny_take (i := 4) (v := undef) rfl (by kernel_rfl) (by kernel_rfl) (by kernel_rfl) (fun _ _ _ h => h) (.inr ⟨by kernel_rfl, rfl⟩) ?_
                  refine wpAny_take (i := 5) (v := undef) rfl (by kernel_rfl) (by kernel_rfl) (by kernel_rfl) (fun _ _ _ h => h) (.inr ⟨by kernel_rfl, rfl⟩) ?_
                  refine wpAny_take (i := 6) (v := undef) rfl (by kernel_rfl) (by kernel_rfl) (by kernel_rfl) (fun _ _ _ h => h) (.inr ⟨by kernel_rfl, rfl⟩) ?_
                  refine wpAny_take (i := 7) (v := undef) rfl (by kernel_rfl) (by kernel_rfl) (by kernel_rfl) (fun _ _ _ h => h) (.inr ⟨by kernel_rfl, rfl⟩) ?_
                  refine wpAny_take (i := 8) (v := undef) rfl (by kernel_rfl) (by kernel_rfl) (by kernel_rfl) (fun _ _ _ h => h) (.inr ⟨by kernel_rfl, rfl⟩) ?_
                  refine wpAny_take (i := 9) (v := undef) rfl (by kernel_rfl) (by kernel_rfl) (by kernel_rfl) (fun _ _ _ h => h) (.inr ⟨by kernel_rfl, rfl⟩) ?_
                  refine wpAny_take (i := 10) (v := .bool false) rfl (by kernel_rfl) (by kernel_rfl) (by kernel_rfl) (fun _ _ _ h => h) (.inl ⟨by kernel_rfl, fun _ => by kernel_rfl⟩) ?_
                  refine wpAny_take (i := 11) (v := .bool false) rfl (by kernel_rfl) (by kernel_rfl) (by kernel_rfl) (fun _ _ _ h => h) (.inl ⟨by kernel_rfl, fun _ => by kernel_rfl⟩) ?_
                  refine wpAny_take (i := 12) (v := undef) rfl (by kernel_rfl) (by kernel_rfl) (by kernel_rfl) (fun _ _ _ h => h) (.inr ⟨by kernel_rfl, rfl⟩) ?_
                  refine wpAny_take (i := 13) (v := undef) rfl (by kernel_rfl) (by kernel_rfl) (by kernel_rfl) (fun _ _ _ h => h) (.inr ⟨by kernel_rfl, rfl⟩) ?_
                  refine wpAny_take (i := 14) (v := undef) rfl (by kernel_rfl) (by kernel_rfl) (by kernel_rfl) (fun _ _ _ h => h) (.inr ⟨by kernel_rfl, rfl⟩) ?_
                  refine wpAny_take (i := 15) (v := undef) rfl (by kernel_rfl) (by kernel_rfl) (by kernel_rfl) (fun _ _ _ h => h) (.inr ⟨by kernel_rfl, rfl⟩) ?_
                  refine wpAny_take (i := 16) (v := undef) rfl (by kernel_rfl) (by kernel_rfl) (by kernel_rfl) (fun _ _ _ h => h) (.inr ⟨by kernel_rfl, rfl⟩) ?_
                  refine wpAny_take (i := 17) (v := undef) rfl (by kernel_rfl) (by kernel_rfl) (by kernel_rfl) (fun _ _ _ h => h) (.inr ⟨by kernel_rfl, rfl⟩) ?_
                  refine wpAny_take (i := 18) (v := undef) rfl (by kernel_rfl) (by kernel_rfl) (by kernel_rfl) (fun _ _ _ h => h) (.inr ⟨by kernel_rfl, rfl⟩) ?_
                  refine wpAny_take (i := 19) (v := .bool false) rfl (by kernel_rfl) (by kernel_rfl) (by kernel_rfl) (fun _ _ _ h => h) (.inl ⟨by kernel_rfl, fun _ => by kernel_rfl⟩) ?_
                  refine wpAny_take (i := 20) (v := .bool false) rfl (by kernel_rfl) (by kernel_rfl) (by kernel_rfl) (fun _ _ _ h => h) (.inl ⟨by kernel_rfl, fun _ => by kernel_rfl⟩) ?_
                  refine wpAny_done (by kernel_rfl) ?_ _
                  go_wp2_with fail
                  go_simp
                  go_ret
                  exact .no (below_drewN HW12.out 1)
            · rcases bt (kd1.toList == [68, 101, 115, 116, 114, 117, 99, 116, 111, 114]) with qfDestructor | qfDestructor
              · go_wp2_with fail
                have HB9 := Lib.hid (box_at HY4.out.nv)
                have HT9 := Lib.hid (HT4.out.keep (below_new w4 (.cells #[.string kd1, .string tx1, .int .i64 nm1, .slice a1 n1 cap1] 24)))
                have HW9 := Lib.hid (behind HW4.out (below_new w4 (.cells #[.string kd1, .string tx1, .int .i64 nm1, .slice a1 n1 cap1] 24)))
                have HA9 := Lib.hid (HA4.out.keep (below_new w4 (.cells #[.string kd1, .string tx1, .int .i64 nm1, .slice a1 n1 cap1] 24)))
                have HX9 := Lib.hid (HX4.out.keep (below_new w4 (.cells #[.string kd1, .string tx1, .int .i64 nm1, .slice a1 n1 cap1] 24)))
                obtain ⟨ks1, ek1, _, _, hn9, _, hk9⟩ := HY4.out.nv.kids
                have HK9 := Lib.hid (hk9.keep (below_new w4 (.cells #[.string kd1, .string tx1, .int .i64 nm1, .slice a1 n1 cap1] 24)))
                have HN9 := Lib.hid hn9
                have HD9 := Lib.hid (HD.out k1 (by simp))
                subst ek1
                clear hn9 hk9
                clear xb0 xb1 xb2 xb3 xX0 xX1 xX2 xX3 xY0 xY1 xY2 xY3
                refine (plain_any _ _ _ _ _ _ 1 _).mono ?_
                rintro e w10 ⟨b10, rfl, hp10, hb10⟩
                have HP10 := Lib.hid hp10
                have HB10 := Lib.hid (HB9.out.keep hb10)
                have HA10 := Lib.hid (HA9.out.keep hb10)
                have HT10 := Lib.hid (HT9.out.keep hb10)
                have HK10 := Lib.hid (HK9.out.keep hb10)
                have HX10 := Lib.hid (HX9.out.keep hb10)
                have HW10 := Lib.hid (behind HW9.out hb10)
                clear hp10 hb10
                obtain ⟨xb0, xb1, xb2, xb3⟩ := HB10.out.box
                obtain ⟨xA0, xA1, xA2, xA3⟩ := HA10.out.box
                obtain ⟨xX0, xX1, xX2, xX3⟩ := HX10.out.cells
                cases b10 with
                | false =>
                  go_wp2_with fail
                  go_ret
                  exact .no HW10.out
                | true =>
                  obtain ⟨k2, rfl⟩ := one_of HN9.out (HP10.out (by simp))
                  obtain rfl := HP10.out (by simp)
                  obtain ⟨b2, off2, kd2, tx2, nm2, a2, n2, cap2, rfl, hx⟩ := HK10.out.one
                  have HY10 := Lib.hid hx
                  clear hx
                  clear xb0 xb1 xb2 xb3 xA0 xA1 xA2 xA3 xX0 xX1 xX2 xX3
                  obtain ⟨xb0, xb1, xb2, xb3⟩ := HB10.out.box
                  obtain ⟨xA0, xA1, xA2, xA3⟩ := HA10.out.box
                  obtain ⟨xX0, xX1, xX2, xX3⟩ := HX10.out.cells
                  obtain ⟨xY0, xY1, xY2, xY3⟩ := HY10.out.cells
                  go_wp2_with fail
                  refine (last_any (g + 1) _ _ _ _ _ _ _ _ HX10.out.nv HD0.out HG0.out).mono ?_
                  rintro e w11 ⟨t2, kdn, txn, nmn, an, nn, capn, rfl, hdn, hgn, hnvn, hb11⟩
                  have HB11 := Lib.hid (HB10.out.keep hb11)
                  have HA11 := Lib.hid (HA10.out.keep hb11)
                  have HT11 := Lib.hid (HT10.out.keep hb11)
                  have HX11 := Lib.hid (HX10.out.keep hb11)
                  have HY11 := Lib.hid (HY10.out.keep hb11)
                  have HW11 := Lib.hid (behind HW10.out hb11)
                  have HNN := Lib.hid (hnvn.keep hb11)
                  have HDN := Lib.hid hdn
                  have HGN := Lib.hid hgn
                  clear hdn hgn hnvn hb11
                  clear xb0 xb1 xb2 xb3 xA0 xA1 xA2 xA3 xX0 xX1 xX2 xX3 xY0 xY1 xY2 xY3
                  obtain ⟨xb0, xb1, xb2, xb3⟩ := HB11.out.box
                  obtain ⟨xA0, xA1, xA2, xA3⟩ := HA11.out.box
                  obtain ⟨xX0, xX1, xX2, xX3⟩ := HX11.out.cells
                  obtain ⟨xY0, xY1, xY2, xY3⟩ := HY11.out.cells
                  go_wp2_with fail
                  have HB12 := Lib.hid (HB11.out.keep (below_new w11 (.cells #[.string kdn, .string txn, .int .i64 nmn, .slice an nn capn] 24)))
                  have HA12 := Lib.hid (HA11.out.keep (below_new w11 (.cells #[.string kdn, .string txn, .int .i64 nmn, .slice an nn capn] 24)))
                  have HT12 := Lib.hid (HT11.out.keep (below_new w11 (.cells #[.string kdn, .string txn, .int .i64 nmn, .slice an nn capn] 24)))
                  have HX12 := Lib.hid (HX11.out.keep (below_new w11 (.cells #[.string kdn, .string txn, .int .i64 nmn, .slice an nn capn] 24)))
                  have HY12 := Lib.hid (HY11.out.keep (below_new w11 (.cells #[.string kdn, .string txn, .int .i64 nmn, .slice an nn capn] 24)))
                  have HW12 := Lib.hid (behind HW11.out (below_new w11 (.cells #[.string kdn, .string txn, .int .i64 nmn, .slice an nn capn] 24)))
                  have HM12 := Lib.hid (box_at HNN.out)
                  clear xb0 xb1 xb2 xb3 xA0 xA1 xA2 xA3 xX0 xX1 xX2 xX3 xY0 xY1 xY2 xY3
                  generalize w11.heap.size = NB at *
                  generalize (w11.alloc (.cells #[.string kdn, .string txn, .int .i64 nmn, .slice an nn capn] 24)) = w12 at *
                  obtain ⟨xb0, xb1, xb2, xb3⟩ := HB12.out.box
                  obtain ⟨xA0, xA1, xA2, xA3⟩ := HA12.out.box
                  obtain ⟨xM0, xM1, xM2, xM3⟩ := HM12.out.box
                  obtain ⟨xX0, xX1, xX2, xX3⟩ := HX12.out.cells
                  obtain ⟨xY0, xY1, xY2, xY3⟩ := HY12.out.cells
                  rcases bt (kdn.toList == [78, 97, 109, 101]) with qfName | qfName
                  · have HCG := Lib.hid (show kdn = kd2 ∧ nn = n2 → Good k2 by
                      rintro ⟨e1, e2⟩
                      obtain ⟨ks, et, _, _, en, _, _⟩ := HM12.out.nv.kids
                      have hg := HGN.out
                      rw [et] at hg
                      have h0 := good_leaf hg (memK qfName (by simp [leafK]))
                      subst h0
                      have hn2 : n2 = 0 := by rw [← e2, en]; rfl
                      have hv := HY12.out.nv
                      rw [hn2] at hv
                      exact hv.leaf (by rw [← e1]; exact memK qfName (by simp [leafK])))
                    have HM13 := Lib.hid (HM12.out.keep (Below.refl _ w12).drew)
                    have HY13 := Lib.hid (HY12.out.keep (Below.refl _ w12).drew)
                    go_region_with (first
                      | (go_at_call 23; refine (same_any (g + 1) _ _ _ _ _ _ _ _ _ _ _ _ _ _ _ HM13.out.nv HY13.out.nv HDN.out).mono ?_; rintro e w14 ⟨b14, rfl, hp14, hb14⟩
                         have hb14 := undrew hb14
                         have HP14 := Lib.hid hp14
                         have HA14 := Lib.hid (HA12.out.keep hb14)
                         have HX14 := Lib.hid (HX12.out.keep hb14)
                         have HW14 := Lib.hid (behind HW12.out hb14)
                         obtain ⟨yA0, yA1, yA2, yA3⟩ := HA14.out.box
                         obtain ⟨yX0, yX1, yX2, yX3⟩ := HX14.out.cells
                         clear hp14 hb14 xb0 xb1 xb2 xb3 xA0 xA1 xA2 xA3 xM0 xM1 xM2 xM3 xX0 xX1 xX2 xX3 xY0 xY1 xY2 xY3
                         cases b14
                         · go_wp2_with fail
                           refine wpAny_take (i := 10) (v := .bool false) rfl (by kernel_rfl) (by kernel_rfl) (by kernel_rfl) (fun _ _ _ h => h) (.inl ⟨by kernel_rfl, fun _ => by kernel_rfl⟩) ?_
                           refine wpAny_take (i := 11) (v := .bool false) rfl (by kernel_rfl) (by kernel_rfl) (by kernel_rfl) (fun _ _ _ h => h) (.inl ⟨by kernel_rfl, fun _ => by kernel_rfl⟩) ?_
                           refine wpAny_take (i := 12) (v := undef) rfl (by kernel_rfl) (by kernel_rfl) (by kernel_rfl) (fun _ _ _ h => h) (.inr ⟨by kernel_rfl, rfl⟩) ?_
                           refine wpAny_take (i := 13) (v := undef) rfl (by kernel_rfl) (by kernel_rfl) (by kernel_rfl) (fun _ _ _ h => h) (.inr ⟨by kernel_rfl, rfl⟩) ?_
                           refine wpAny_take (i := 14) (v := undef) rfl (by kernel_rfl) (by kernel_rfl) (by kernel_rfl) (fun _ _ _ h => h) (.inr ⟨by kernel_rfl, rfl⟩) ?_
                           refine wpAny_take (i := 15) (v := undef) rfl (by kernel_rfl) (by kernel_rfl) (by kernel_rfl) (fun _ _ _ h => h) (.inr ⟨by kernel_rfl, rfl⟩) ?_
                           refine wpAny_take (i := 16) (v := undef) rfl (by kernel_rfl) (by kernel_rfl) (by kernel_rfl) (fun _ _ _ h => h) (.inr ⟨by kernel_rfl, rfl⟩) ?_
                           refine wpAny_take (i := 17) (v := undef) rfl (by kernel_rfl) (by kernel_rfl) (by kernel_rfl) (fun _ _ _ h => h) (.inr ⟨by kernel_rfl, rfl⟩) ?_
                           refine wpAny_take (i := 18) (v := undef) rfl (by kernel_rfl) (by kernel_rfl) (by kernel_rfl) (fun _ _ _ h => h) (.inr ⟨by kernel_rfl, rfl⟩) ?_
                           refine wpAny_take (i := 19) (v := .bool false) rfl (by kernel_rfl) (by kernel_rfl) (by kernel_rfl) (fun _ _ _ h => h) (.inl ⟨by kernel_rfl, fun _ => by kernel_rfl⟩) ?_
                           refine wpAny_take (i := 20) (v := .bool false) rfl (by kernel_rfl) (by kernel_rfl) (by kernel_rfl) (fun _ _ _ h => h) (.inl ⟨by kernel_rfl, fun _ => by kernel_rfl⟩) ?_
                           refine wpAny_done (by kernel_rfl) ?_ _
                           go_wp2_with fail
                           go_simp
                           go_ret
                           exact .no HW14.out)
                      | (go_at_call 47; refine (tail_any (g + 1) _ _ _ _ _ _ _ _ HX14.out.nv HD0.out HG0.out).mono ?_; rintro e w15 ⟨t3, kd3, tx3, nm3, a3, n3, cap3, rfl, hd3, _, hnv3, hb15⟩
                         have HN15 := Lib.hid (hnv3.keep hb15)
                         have HD15 := Lib.hid hd3
                         have HW15 := Lib.hid (behind HW14.out hb15)
                         clear hd3 hnv3 hb15 yA0 yA1 yA2 yA3 yX0 yX1 yX2 yX3)
                      | (go_at_call 46; refine (has_any (g + 1) _ _ _ _ _ _ _ _ _ HN15.out HD15.out).mono ?_; rintro e w16 ⟨b16, rfl, _, hb16⟩
                         have HW16 := Lib.hid (behind HW15.out hb16)
                         clear hb16))
                    all_goals
                      go_wp2_with fail
                      go_simp
                      go_ret
                      exact .yes (.two (memK qQualified (by simp [twoK])) HG0.out (.one (memK qfDestructor (by simp [oneK])) (HCG.out (HP14.out (by simp))))) HW16.out
                  · refine wp_region_any (by kernel_rfl) ?_
                    change wpAny _ _ _ _ _ _ _ (World.drew _)
                    refine wpAny_ready (rs := [0]) (by kernel_rfl) (by simp) ?_
                    refine AllReady.cons rfl (fun K hK => ?_) AllReady.nil
                    go_simp
                    refine hK _ _ ?_
                    clear hK K
                    refine wpAny_ready (rs := [1]) (by kernel_rfl) (by simp) ?_
                    refine AllReady.cons rfl (fun K hK => ?_) AllReady.nil
                    go_simp
                    refine hK _ _ ?_
                    clear hK K
                    refine wpAny_ready (rs := [2]) (by kernel_rfl) (by simp) ?_
                    refine AllReady.cons rfl (fun K hK => ?_) AllReady.nil
                    go_simp
                    refine hK _ _ ?_
                    clear hK K
                    refine wpAny_ready (rs := [3]) (by kernel_rfl) (by simp) ?_
                    refine AllReady.cons rfl (fun K hK => ?_) AllReady.nil
                    go_simp
                    refine hK _ _ ?_
                    clear hK K
                    refine wpAny_take (i := 4) (v := undef) rfl (by kernel_rfl) (by kernel_rfl) (by kernel_rfl) (fun _ _ _ h => h) (.inr ⟨by kernel_rfl, rfl⟩) ?_
                    refine wpAny_take (i := 5) (v := undef) rfl (by kernel_rfl) (by kernel_rfl) (by kernel_rfl) (fun _ _ _ h => h) (.inr ⟨by kernel_rfl, rfl⟩) ?_
                    refine wpAny_take (i := 6) (v := undef) rfl (by kernel_rfl) (by kernel_rfl) (by kernel_rfl) (fun _ _ _ h => h) (.inr ⟨by kernel_rfl, rfl⟩) ?_
                    refine wpAny_take (i := 7) (v := undef) rfl (by kernel_rfl) (by kernel_rfl) (by kernel_rfl) (fun _ _ _ h => h) (.inr ⟨by kernel_rfl, rfl⟩) ?_
                    refine wpAny_take (i := 8) (v := undef) rfl (by kernel_rfl) (by kernel_rfl) (by kernel_rfl) (fun _ _ _ h => h) (.inr ⟨by kernel_rfl, rfl⟩) ?_
                    refine wpAny_take (i := 9) (v := undef) rfl (by kernel_rfl) (by kernel_rfl) (by kernel_rfl) (fun _ _ _ h => h) (.inr ⟨by kernel_rfl, rfl⟩) ?_
                    refine wpAny_take (i := 10) (v := .bool false) rfl (by kernel_rfl) (by kernel_rfl) (by kernel_rfl) (fun _ _ _ h => h) (.inl ⟨by kernel_rfl, fun _ => by kernel_rfl⟩) ?_
                    refine wpAny_take (i := 11) (v := .bool false) rfl (by kernel_rfl) (by kernel_rfl) (by kernel_rfl) (fun _ _ _ h => h) (.inl ⟨by kernel_rfl, fun _ => by kernel_rfl⟩) ?_
                    refine wpAny_take (i := 12) (v := undef) rfl (by kernel_rfl) (by kernel_rfl) (by kernel_rfl) (fun _ _ _ h => h) (.inr ⟨by kernel_rfl, rfl⟩) ?_
                    refine wpAny_take (i := 13) (v := undef) rfl (by kernel_rfl) (by kernel_rfl) (by kernel_rfl) (fun _ _ _ h => h) (.inr ⟨by kernel_rfl, rfl⟩) ?_
                    refine wpAny_take (i := 14) (v := undef) rfl (by kernel_rfl) (by kernel_rfl) (by kernel_rfl) (fun _ _ _ h => h) (.inr ⟨by kernel_rfl, rfl⟩) ?_
                    refine wpAny_take (i := 15) (v := undef) rfl (by kernel_rfl) (by kernel_rfl) (by kernel_rfl) (fun _ _ _ h => h) (.inr ⟨by kernel_rfl, rfl⟩) ?_
                    refine wpAny_take (i := 16) (v := undef) rfl (by kernel_rfl) (by kernel_rfl) (by kernel_rfl) (fun _ _ _ h => h) (.inr ⟨by kernel_rfl, rfl⟩) ?_
                    refine wpAny_take (i := 17) (v := undef) rfl (by kernel_rfl) (by kernel_rfl) (by kernel_rfl) (fun _ _ _ h => h) (.inr ⟨by kernel_rfl, rfl⟩) ?_
                    refine wpAny_take (i := 18) (v := undef) rfl (by kernel_rfl) (by kernel_rfl) (by kernel_rfl) (fun _ _ _ h => h) (.inr ⟨by kernel_rfl, rfl⟩) ?_
                    refine wpAny_take (i := 19) (v := .bool false) rfl (by kernel_rfl) (by kernel_rfl) (by kernel_rfl) (fun _ _ _ h => h) (.inl ⟨by kernel_rfl, fun _ => by kernel_rfl⟩) ?_
                    refine wpAny_take (i := 20) (v := .bool false) rfl (by kernel_rfl) (by kernel_rfl) (by kernel_rfl) (fun _ _ _ h => h) (.inl ⟨by kernel_rfl, fun _ => by kernel_rfl⟩) ?_
                    refine wpAny_done (by kernel_rfl) ?_ _
                    go_wp2_with fail
                    go_simp
                    go_ret
                    exact .no (below_drewN HW12.out 1)
              · go_wp2_with fail
                go_ret
                exact .no (behind HW4.out (below_new _ _))
  go_enter Tryz.func36, Tryz.ntmps36
  go_wp2_with fail
  go_ret
  exact .no HW0.out

end Go.Proofs.YtdlhhdhooacogaaGreatDoor

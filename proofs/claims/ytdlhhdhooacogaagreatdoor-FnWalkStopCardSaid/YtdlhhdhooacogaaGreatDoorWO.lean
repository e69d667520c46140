/-
  isFunctionType, isMethod, isMember.
-/
import Derived.Test.YtdlhhdhooacogaaGreatDoorWN
namespace Go.Proofs.YtdlhhdhooacogaaGreatDoor
open Go.RowKit

theorem Wk.zero (f : FuncId) (P : NT → Prop) : Wk f P 0 := fun _ _ _ _ _ _ _ _ _ _ hd => absurd hd id

theorem eq_empty {s : ByteArray} (h : s.toList.isEmpty = true) : s = ⟨#[]⟩ := by
  rw [ByteArray.toList_eq] at h
  cases s with
  | mk a => simp at h; subst h; rfl

theorem NV.kindOf {w : World} {kd tx : ByteArray} {nm : Int} {a : Option Addr} {n cap : Nat} {t : NT} (h : NV w [.string kd, .string tx, .int .i64 nm, .slice a n cap] t) : t.kind = kd := by
  obtain ⟨ks, e, _⟩ := h.kids
  rw [e]
  rfl

/-- The form of a method with qualifiers. -/
def MethP (t : NT) : Prop := t.kind = ⟨#[77, 101, 116, 104, 111, 100, 87, 105, 116, 104, 81, 117, 97, 108, 105, 102, 105, 101, 114, 115]⟩ ∧ ∃ k l, t.kids = [k, l] ∧ Quals l

theorem nv_empty (w : World) : NV w [.string ⟨#[]⟩, .string ⟨#[]⟩, .int .i64 0, .slice none 0 0] (.mk ⟨#[]⟩ ⟨#[]⟩ 0 []) :=
  .mk _ _ _ none 0 0 [] (fun _ => []) (by decide) (by decide) (by decide) rfl (by decide) (Nat.le_refl _) (fun h => by omega) (fun i hi => by omega)

set_option maxHeartbeats 4000000 in
theorem isFunctionType_of (d : Nat) (hR : Wk 21 Good d) (hP : WkL 19 d) : Wk 53 Good (d + 1) := by
  intro t kind text num a n cap w h ht hd
  have hcap := h.cap
  obtain ⟨kids, rfl, hz1, hz2, hn, hm, hk⟩ := h.kids
  have HD := Lib.hid (show ∀ k ∈ kids, Dep d k from hd)
  have HDT := Lib.hid hd
  have HZ1 := Lib.hid hz1
  have HZ2 := Lib.hid hz2
  have HM := Lib.hid hm
  unfold maxLen at hz1 hz2 hm
  have HB0 := Lib.hid (box_at h)
  have HT0 := Lib.hid (ht.keep (below_new w (.cells #[.string kind, .string text, .int .i64 num, .slice a n cap] 24)))
  have HK0 := Lib.hid (hk.keep (below_new w (.cells #[.string kind, .string text, .int .i64 num, .slice a n cap] 24)))
  have HW0 := Lib.hid (below_new w (.cells #[.string kind, .string text, .int .i64 num, .slice a n cap] 24))
  have HN := Lib.hid hn
  clear hk h ht hd hn
  have HR := Lib.hid hR
  have HP := Lib.hid hP
  clear hR hP
  rcases bt (kind.toList == [70, 117, 110, 99, 116, 105, 111, 110, 84, 121, 112, 101]) with qFunctionType | qFunctionType
  · rcases bt text.toList.isEmpty with qt | qt
    rotate_left
    · go_enter Tryz.func53, Tryz.ntmps53
      go_wp2_with fail
      go_ret
      exact .no HW0.out
    by_cases hz0 : num = 0
    rotate_left
    · have qz : (num == 0) = false := by simpa using hz0
      go_enter Tryz.func53, Tryz.ntmps53
      go_wp2_with fail
      all_goals (go_ret; exact .no HW0.out)
    subst hz0
    by_cases hn0 : n = 0
    · subst hn0
      go_enter Tryz.func53, Tryz.ntmps53
      go_wp2_with fail
      go_ret
      exact .no HW0.out
    obtain ⟨m, rfl⟩ : ∃ m, n = m + 1 := ⟨n - 1, by omega⟩
    clear hn0
    obtain ⟨k0, ks, rfl⟩ : ∃ k0 ks, kids = k0 :: ks := by cases kids with | nil => exact absurd HN.out (by simp) | cons k0 ks => exact ⟨k0, ks, rfl⟩
    have HM2 := Lib.hid (show m = ks.length by have := HN.out; simp at this; omega)
    have HML := Lib.hid (show m ≤ maxLen by have := HM.out; omega)
    have hm2 : m ≤ 9223372036854775807 := by omega
    have HK := Lib.hid HK0.out
    obtain ⟨b, off, kd0, tx0, nm0, a0, n0, cap0, rfl, hx⟩ := HK0.out.one
    have HX0 := Lib.hid hx
    clear hx
    obtain ⟨xb0, xb1, xb2, xb3⟩ := HB0.out.box
    obtain ⟨xX0, xX1, xX2, xX3⟩ := HX0.out.cells
    have HV0 := Lib.hid HK.out.tail
    clear hm hz1 hz2
    go_enter Tryz.func53, Tryz.ntmps53
    go_wp2_with fail
    refine (HR.out.at HX0.out HT0.out (HD.out k0 (by simp))).mono ?_
    rintro e w1 ⟨b1, rfl, hp1, hb1⟩
    have HP1 := Lib.hid hp1
    have HB1 := Lib.hid (HB0.out.keep hb1)
    have HT1 := Lib.hid (HT0.out.keep hb1)
    have HX1 := Lib.hid (HX0.out.keep hb1)
    have HV1 := Lib.hid (HV0.out.keep hb1)
    have HW1 := Lib.hid (behind HW0.out hb1)
    clear hp1 hb1
    clear xb0 xb1 xb2 xb3 xX0 xX1 xX2 xX3
    obtain ⟨xb0, xb1, xb2, xb3⟩ := HB1.out.box
    obtain ⟨xX0, xX1, xX2, xX3⟩ := HX1.out.cells
    cases b1 with
    | false =>
      go_wp2_with fail
      go_ret
      exact .no HW1.out
    | true =>
      by_cases hc1 : cap = 1
      · obtain rfl : m = 0 := by omega
        obtain rfl := nil_of HM2.out rfl
        subst hc1
        go_wp2_with fail
        refine (HP.out [] _ 0 _ _ (.inl rfl) rfl (Nat.zero_le _) HT1.out (fun k hk => by simp at hk)).mono ?_
        rintro e w2 ⟨b2, rfl, hp2, hb2⟩
        have HP2 := Lib.hid hp2
        have HB2 := Lib.hid (HB1.out.keep hb2)
        have HT2 := Lib.hid (HT1.out.keep hb2)
        have HX2 := Lib.hid (HX1.out.keep hb2)
        have HV2 := Lib.hid (HV1.out.keep hb2)
        have HW2 := Lib.hid (behind HW1.out hb2)
        clear hp2 hb2
        clear xb0 xb1 xb2 xb3 xX0 xX1 xX2 xX3
        obtain ⟨xb0, xb1, xb2, xb3⟩ := HB2.out.box
        obtain ⟨xX0, xX1, xX2, xX3⟩ := HX2.out.cells
        cases b2 with
        | false =>
          go_wp2_with fail
          go_ret
          exact .no HW2.out
        | true =>
          go_wp2_with fail
          go_ret
          exact .yes (.func (eq_list qFunctionType) (HP1.out (by simp)) (HP2.out (by simp))) HW2.out
      · skip
        go_wp2_with fail
        refine (HP.out ks _ m _ _ HV1.out HM2.out HML.out HT1.out (fun k hk => HD.out k (List.mem_cons_of_mem _ hk))).mono ?_
        rintro e w2 ⟨b2, rfl, hp2, hb2⟩
        have HP2 := Lib.hid hp2
        have HB2 := Lib.hid (HB1.out.keep hb2)
        have HT2 := Lib.hid (HT1.out.keep hb2)
        have HX2 := Lib.hid (HX1.out.keep hb2)
        have HV2 := Lib.hid (HV1.out.keep hb2)
        have HW2 := Lib.hid (behind HW1.out hb2)
        clear hp2 hb2
        clear xb0 xb1 xb2 xb3 xX0 xX1 xX2 xX3
        obtain ⟨xb0, xb1, xb2, xb3⟩ := HB2.out.box
        obtain ⟨xX0, xX1, xX2, xX3⟩ := HX2.out.cells
        cases b2 with
        | false =>
          go_wp2_with fail
          go_ret
          exact .no HW2.out
        | true =>
          go_wp2_with fail
          go_ret
          exact .yes (.func (eq_list qFunctionType) (HP1.out (by simp)) (HP2.out (by simp))) HW2.out
  go_enter Tryz.func53, Tryz.ntmps53
  go_wp2_with fail
  go_ret
  exact .no HW0.out

set_option maxHeartbeats 4000000 in
theorem isMethod_any (d : Nat) : Wk 24 MethP (d + 1) := by
  intro t kind text num a n cap w h ht hd
  have hcap := h.cap
  obtain ⟨kids, rfl, hz1, hz2, hn, hm, hk⟩ := h.kids
  have HD := Lib.hid (show ∀ k ∈ kids, Dep d k from hd)
  have HDT := Lib.hid hd
  have HZ1 := Lib.hid hz1
  have HZ2 := Lib.hid hz2
  have HM := Lib.hid hm
  unfold maxLen at hz1 hz2 hm
  have HB0 := Lib.hid (box_at h)
  have HT0 := Lib.hid (ht.keep (below_new w (.cells #[.string kind, .string text, .int .i64 num, .slice a n cap] 24)))
  have HK0 := Lib.hid (hk.keep (below_new w (.cells #[.string kind, .string text, .int .i64 num, .slice a n cap] 24)))
  have HW0 := Lib.hid (below_new w (.cells #[.string kind, .string text, .int .i64 num, .slice a n cap] 24))
  have HN := Lib.hid hn
  clear hk h ht hd hn
  clear hcap
  rcases bt (kind.toList == [77, 101, 116, 104, 111, 100, 87, 105, 116, 104, 81, 117, 97, 108, 105, 102, 105, 101, 114, 115]) with qMethodWithQualifiers | qMethodWithQualifiers
  · by_cases hz0 : num = 0
    rotate_left
    · have qz : (num == 0) = false := by simpa using hz0
      go_enter Tryz.func24, Tryz.ntmps24
      go_wp2_with fail
      all_goals (go_ret; exact .no HW0.out)
    subst hz0
    by_cases hn2 : n = 2
    rotate_left
    · have qn : ((n : Int) == 2) = false := by simp; omega
      go_enter Tryz.func24, Tryz.ntmps24
      go_wp2_with fail
      all_goals (go_ret; exact .no HW0.out)
    obtain ⟨k0, k1, rfl⟩ := two_of HN.out hn2
    subst hn2
    obtain ⟨b, off, kd0, tx0, nm0, a0, n0, cap0, kd1, tx1, nm1, a1, n1, cap1, rfl, hx, hy⟩ := HK0.out.two
    have HX0 := Lib.hid hx
    have HY0 := Lib.hid hy
    clear hx hy
    obtain ⟨xb0, xb1, xb2, xb3⟩ := HB0.out.box
    obtain ⟨xX0, xX1, xX2, xX3⟩ := HX0.out.cells
    obtain ⟨xY0, xY1, xY2, xY3⟩ := HY0.out.cells
    have PF := Lib.hid (fun h : Quals k1 => (⟨eq_list qMethodWithQualifiers, k0, k1, rfl, h⟩ : MethP (.mk kind text 0 [k0, k1])))
    rcases bt text.toList.isEmpty with qt | qt
    · rcases bt kd1.toList.isEmpty with qk | qk
      · go_enter Tryz.func24, Tryz.ntmps24
        go_wp2_with fail
        all_goals (go_ret; exact .no HW0.out)
      · go_enter Tryz.func24, Tryz.ntmps24
        go_wp2_with fail
        refine (isQualifiers_no k1 _ _ _ _ _ _ _ HY0.out.nv).mono ?_
        rintro e w1 ⟨b1, rfl, hp1, hb1⟩
        have HP1 := Lib.hid hp1
        have HW1 := Lib.hid (behind HW0.out hb1)
        clear hb1 hp1
        go_wp2_with fail
        go_ret
        exact ⟨_, rfl, fun h => PF.out (HP1.out h), HW1.out⟩
    rcases bt (text.toList == [38]) with qamp1 | qamp1
    · rcases bt kd1.toList.isEmpty with qk | qk
      · have HQ := Lib.hid (PF.out (.inl (HY0.out.nv.kindOf.trans (eq_empty qk))))
        go_enter Tryz.func24, Tryz.ntmps24
        go_wp2_with fail
        refine (same_any d k1 _ _ _ _ _ _ _ _ _ _ _ _ _ _ HY0.out.nv (nv_empty _) (HD.out k1 (by simp))).mono ?_
        rintro e w1 ⟨b1, rfl, _, hb1⟩
        have HW1 := Lib.hid (behind HW0.out hb1)
        clear hb1
        go_wp2_with fail
        all_goals (go_ret; exact .yes (HQ.out) HW1.out)
      · go_enter Tryz.func24, Tryz.ntmps24
        go_wp2_with fail
        refine (isQualifiers_no k1 _ _ _ _ _ _ _ HY0.out.nv).mono ?_
        rintro e w1 ⟨b1, rfl, hp1, hb1⟩
        have HP1 := Lib.hid hp1
        have HW1 := Lib.hid (behind HW0.out hb1)
        clear hb1 hp1
        go_wp2_with fail
        go_ret
        exact ⟨_, rfl, fun h => PF.out (HP1.out h), HW1.out⟩
    rcases bt (text.toList == [38, 38]) with qamp2 | qamp2
    · rcases bt kd1.toList.isEmpty with qk | qk
      · have HQ := Lib.hid (PF.out (.inl (HY0.out.nv.kindOf.trans (eq_empty qk))))
        go_enter Tryz.func24, Tryz.ntmps24
        go_wp2_with fail
        refine (same_any d k1 _ _ _ _ _ _ _ _ _ _ _ _ _ _ HY0.out.nv (nv_empty _) (HD.out k1 (by simp))).mono ?_
        rintro e w1 ⟨b1, rfl, _, hb1⟩
        have HW1 := Lib.hid (behind HW0.out hb1)
        clear hb1
        go_wp2_with fail
        all_goals (go_ret; exact .yes (HQ.out) HW1.out)
      · go_enter Tryz.func24, Tryz.ntmps24
        go_wp2_with fail
        refine (isQualifiers_no k1 _ _ _ _ _ _ _ HY0.out.nv).mono ?_
        rintro e w1 ⟨b1, rfl, hp1, hb1⟩
        have HP1 := Lib.hid hp1
        have HW1 := Lib.hid (behind HW0.out hb1)
        clear hb1 hp1
        go_wp2_with fail
        go_ret
        exact ⟨_, rfl, fun h => PF.out (HP1.out h), HW1.out⟩
    go_enter Tryz.func24, Tryz.ntmps24
    go_wp2_with fail
    all_goals (go_ret; exact .no HW0.out)
  go_enter Tryz.func24, Tryz.ntmps24
  go_wp2_with fail
  go_ret
  exact .no HW0.out

end Go.Proofs.YtdlhhdhooacogaaGreatDoor

/-
  isMember; IsType at a type with qualifiers.
-/
import Derived.Test.YtdlhhdhooacogaaGreatDoorWO
import Derived.BigRegion
import Derived.Deep.RegionWith
namespace Go.Proofs.YtdlhhdhooacogaaGreatDoor
open Go.RowKit

set_option maxHeartbeats 4000000 in
theorem isMember_of (d : Nat) (hT : Wk 38 Good (d + 1)) (hF : Wk 53 Good (d + 1)) : Wk 56 Good (d + 1) := by
  intro t kind text num a n cap w h ht hd
  have hcap := h.cap
  obtain ⟨kids, rfl, hz1, hz2, hn, hm, hk⟩ := h.kids
  have HD := Lib.hid (show ∀ k ∈ kids, Dep d k from hd)
  have HDT := Lib.hid hd
  have HZ1 := Lib.hid hz1
  have HZ2 := Lib.hid hz2
  have HM := Lib.hid hm
  unfold maxLen at hz1 hz2 hm
  have HB0 := Lib.hid (box_at h)
  have HT0 := Lib.hid (ht.keep (below_new w (.cells #[.string kind, .string text, .int .i64 num, .slice a n cap] 24)))
  have HK0 := Lib.hid (hk.keep (below_new w (.cells #[.string kind, .string text, .int .i64 num, .slice a n cap] 24)))
  have HW0 := Lib.hid (below_new w (.cells #[.string kind, .string text, .int .i64 num, .slice a n cap] 24))
  have HN := Lib.hid hn
  clear hk h ht hd hn
  have HF := Lib.hid hF
  have HFK := Lib.hid hF.mono
  have HO := Lib.hid (isObject_of (d + 1) hT)
  clear hT hF hcap
  rcases bt (kind.toList == [77, 101, 116, 104, 111, 100, 87, 105, 116, 104, 81, 117, 97, 108, 105, 102, 105, 101, 114, 115]) with qMethodWithQualifiers | qMethodWithQualifiers
  · go_enter Tryz.func56, Tryz.ntmps56
    go_wp2_with fail
    refine ((isMethod_any d).at HB0.out HT0.out HDT.out).mono ?_
    rintro e w1 ⟨b1, rfl, hp1, hb1⟩
    have HP1 := Lib.hid hp1
    have HB1 := Lib.hid (HB0.out.keep hb1)
    have HT1 := Lib.hid (HT0.out.keep hb1)
    have HK1 := Lib.hid (HK0.out.keep hb1)
    have HW1 := Lib.hid (behind HW0.out hb1)
    clear hp1 hb1
    obtain ⟨xb0, xb1, xb2, xb3⟩ := HB1.out.box
    cases b1 with
    | false =>
      go_wp2_with fail
      go_ret
      exact .no HW1.out
    | true =>
      obtain ⟨ek, k0, k1, e2, hq⟩ := HP1.out (by simp)
      simp [NT.kids] at e2
      subst e2
      have HQL := Lib.hid hq
      clear hq ek
      obtain rfl : n = 2 := HN.out
      obtain ⟨b, off, kd0, tx0, nm0, a0, n0, cap0, kd1, tx1, nm1, a1, n1, cap1, rfl, hx, hy⟩ := HK1.out.two
      have HX1 := Lib.hid hx
      have HY1 := Lib.hid hy
      clear hx hy
      clear xb0 xb1 xb2 xb3
      obtain ⟨xb0, xb1, xb2, xb3⟩ := HB1.out.box
      obtain ⟨xX0, xX1, xX2, xX3⟩ := HX1.out.cells
      obtain ⟨xY0, xY1, xY2, xY3⟩ := HY1.out.cells
      go_wp2_with fail
      refine (HFK.out.at HX1.out HT1.out (HD.out k0 (by simp))).mono ?_
      rintro e w2 ⟨b2, rfl, hp2, hb2⟩
      have HP2 := Lib.hid hp2
      have HB2 := Lib.hid (HB1.out.keep hb2)
      have HT2 := Lib.hid (HT1.out.keep hb2)
      have HX2 := Lib.hid (HX1.out.keep hb2)
      have HY2 := Lib.hid (HY1.out.keep hb2)
      have HW2 := Lib.hid (behind HW1.out hb2)
      clear hp2 hb2
      clear xb0 xb1 xb2 xb3 xX0 xX1 xX2 xX3 xY0 xY1 xY2 xY3
      obtain ⟨xb0, xb1, xb2, xb3⟩ := HB2.out.box
      obtain ⟨xX0, xX1, xX2, xX3⟩ := HX2.out.cells
      obtain ⟨xY0, xY1, xY2, xY3⟩ := HY2.out.cells
      cases b2 with
      | false =>
        go_wp2_with fail
        go_ret
        exact .no HW2.out
      | true =>
        go_wp2_with fail
        go_ret
        exact .yes (.qual (memK qMethodWithQualifiers (by simp [qualK])) (HP2.out (by simp)) HQL.out) HW2.out
  go_enter Tryz.func56, Tryz.ntmps56
  go_wp2_with fail
  refine (HF.out.at HB0.out HT0.out HDT.out).mono ?_
  rintro e w1 ⟨b1, rfl, hp1, hb1⟩
  have HP1 := Lib.hid hp1
  have HB1 := Lib.hid (HB0.out.keep hb1)
  have HT1 := Lib.hid (HT0.out.keep hb1)
  have HK1 := Lib.hid (HK0.out.keep hb1)
  have HW1 := Lib.hid (behind HW0.out hb1)
  clear hp1 hb1
  obtain ⟨xb0, xb1, xb2, xb3⟩ := HB1.out.box
  cases b1 with
  | true =>
    go_wp2_with fail
    go_ret
    exact .yes (HP1.out (by simp)) HW1.out
  | false =>
    go_wp2_with fail
    refine (HO.out.at HB1.out HT1.out HDT.out).mono ?_
    rintro e w2 ⟨b2, rfl, hp2, hb2⟩
    have HP2 := Lib.hid hp2
    have HB2 := Lib.hid (HB1.out.keep hb2)
    have HT2 := Lib.hid (HT1.out.keep hb2)
    have HK2 := Lib.hid (HK1.out.keep hb2)
    have HW2 := Lib.hid (behind HW1.out hb2)
    clear hp2 hb2
    clear xb0 xb1 xb2 xb3
    obtain ⟨xb0, xb1, xb2, xb3⟩ := HB2.out.box
    cases b2 with
    | false =>
      go_wp2_with fail
      go_ret
      exact .no HW2.out
    | true =>
      go_wp2_with fail
      go_ret
      exact .yes (HP2.out (by simp)) HW2.out

theorem undrew {w w' : World} (h : Below w.drew.heap.size w.drew w') : Below w.heap.size w w' := ⟨h.os, h.tape, h.output, h.size, h.block⟩

theorem plain_yes (kind text : ByteArray) (num : Int) (a : Option Addr) (n cap : Nat) (k : Nat) (w : World) (ht : text.toList.isEmpty = true) (hn : num = 0) (hk : n = k) :
    Calls Tryz.prog 17 #[.agg #[.string kind, .string text, .int .i64 num, .slice a n cap], .int .i64 k] w (Says true w) := by
  subst hn hk
  go_enter Tryz.func17, Tryz.ntmps17
  go_wp2_with fail
  go_ret
  exact ⟨rfl, below_new _ _⟩

end Go.Proofs.YtdlhhdhooacogaaGreatDoor

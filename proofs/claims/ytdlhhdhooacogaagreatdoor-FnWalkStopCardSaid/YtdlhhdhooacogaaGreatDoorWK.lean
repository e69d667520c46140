/-
  isTemplate, isArg.
-/
import Derived.Test.YtdlhhdhooacogaaGreatDoorWJ
namespace Go.Proofs.YtdlhhdhooacogaaGreatDoor
open Go.RowKit

/-- The form of a name with arguments. -/
def TmplP (t : NT) : Prop := ∃ k ks, t.kids = k :: ks ∧ ∀ x ∈ ks, Good x

/-- A literal's form. -/
def LitP (t : NT) : Prop := ∃ k, t.kids = [k] ∧ Good k

theorem Kids.tail {w : World} {b off : Nat} {k0 : NT} {ks : List NT} (h : Kids w (some ⟨b, off, none⟩) (k0 :: ks)) : Kids w (some ⟨b, off + 4, none⟩) ks := by
  rcases h with h | ⟨b', off', e, h⟩
  · cases h
  · cases e
    refine .inr ⟨b, off + 4, rfl, fun i k hi => ?_⟩
    obtain ⟨kd, tx, nm, a', n', cap', hk⟩ := h (i + 1) k (by simpa using hi)
    refine ⟨kd, tx, nm, a', n', cap', ?_⟩
    have e : off + (i + 1) * 4 = off + 4 + i * 4 := by omega
    rw [e] at hk
    exact hk

theorem Kids.addr {w : World} {a : Option Addr} {k0 : NT} {ks : List NT} (h : Kids w a (k0 :: ks)) : ∃ b off, a = some ⟨b, off, none⟩ := by
  rcases h with h | ⟨b', off', e, h⟩
  · cases h
  · exact ⟨_, _, e⟩

set_option maxHeartbeats 4000000 in
theorem isTemplate_of (d : Nat) (hA : Wk 42 Good d) : Wk 28 TmplP (d + 1) := by
  intro t kind text num a n cap w h ht hd
  have hcap := h.cap
  obtain ⟨kids, rfl, hz1, hz2, hn, hm, hk⟩ := h.kids
  have HD := Lib.hid (show ∀ k ∈ kids, Dep d k from hd)
  have HDT := Lib.hid hd
  have HZ1 := Lib.hid hz1
  have HZ2 := Lib.hid hz2
  have HM := Lib.hid hm
  unfold maxLen at hz1 hz2 hm
  have HB0 := Lib.hid (box_at h)
  have HT0 := Lib.hid (ht.keep (below_new w (.cells #[.string kind, .string text, .int .i64 num, .slice a n cap] 24)))
  have HK0 := Lib.hid (hk.keep (below_new w (.cells #[.string kind, .string text, .int .i64 num, .slice a n cap] 24)))
  have HW0 := Lib.hid (below_new w (.cells #[.string kind, .string text, .int .i64 num, .slice a n cap] 24))
  have HN := Lib.hid hn
  clear hk h ht hd hn
  have HA := Lib.hid hA
  clear hA
  rcases bt text.toList.isEmpty with qt | qt
  rotate_left
  · go_enter Tryz.func28, Tryz.ntmps28
    go_wp2_with fail
    go_ret
    exact .no HW0.out
  by_cases hz0 : num = 0
  rotate_left
  · have qz : (num == 0) = false := by simpa using hz0
    go_enter Tryz.func28, Tryz.ntmps28
    go_wp2_with fail
    all_goals (go_ret; exact .no HW0.out)
  subst hz0
  by_cases hn2 : n < 2
  · have qn : ((n : Int) < 2) := by omega
    go_enter Tryz.func28, Tryz.ntmps28
    go_wp2_with fail
    go_ret
    exact .no HW0.out
  obtain ⟨m, rfl⟩ : ∃ m, n = m + 2 := ⟨n - 2, by omega⟩
  clear hn2
  obtain ⟨k0, ks, rfl⟩ : ∃ k0 ks, kids = k0 :: ks := by cases kids with | nil => exact absurd HN.out (by simp) | cons k0 ks => exact ⟨k0, ks, rfl⟩
  obtain ⟨b, off, rfl⟩ := HK0.out.addr
  have hc1 : ¬ cap = 1 := by omega
  have HK := Lib.hid HK0.out.tail
  have HM2 := Lib.hid (show m + 1 = ks.length by have := HN.out; simp at this; omega)
  have hm2 : m + 1 ≤ 9223372036854775807 := by omega
  clear hm hcap hz1 hz2
  go_enter Tryz.func28, Tryz.ntmps28
  go_wp2_with fail
  have HDK := Lib.hid (fun k hk => HD.out k (List.mem_cons_of_mem _ hk))
  clear HN HD
  have HN := Lib.hid HM2.out
  have HD := Lib.hid HDK.out
  have HT := Lib.hid HT0.out
  have HWW := Lib.hid HW0.out
  clear HT0 HW0 HB0 HK0 HDT HZ1 HZ2 HM HM2 HDK
  generalize (w.alloc (.cells #[.string kind, .string text, .int .i64 0, .slice (some ⟨b, off, none⟩) (m + 2) cap] 24)) = w0 at *
  generalize ks = kids at *
  go_loopw [23] (fun i wr => ∃ (k : Nat), k ≤ m + 1 ∧ i = .int .i64 k ∧ Below w0.heap.size w0 wr ∧ ∀ x, x < k → Good (kids.getD x default)) (fun i _ => (m + 1) - (intOf i).toNat)
  case atStart => exact ⟨0, Nat.zero_le _, rfl, Below.refl _ _, fun x hx => by omega⟩
  case round =>
    obtain ⟨k, hk, rfl, hbw, hdone⟩ := hrel
    have HDN := Lib.hid hdone
    clear hdone
    by_cases hlt : k < m + 1
    · have hlt2 : (k : Int) < (((m + 1 : Nat)) : Int) := by omega
      have hlk : k < kids.length := by rw [← HN.out]; exact hlt
      obtain ⟨kd, tx, nm, a1, n1, cap1, hx⟩ := (HK.out.keep hbw).same k hlk rfl
      have HD1 := Lib.hid (HD.out _ (getD_mem hlk))
      obtain ⟨g0, g1, g2, g3⟩ := hx.cells
      have HB0 := Lib.hid (box_at hx.nv)
      have HT0 := Lib.hid ((HT.out.keep hbw).keep (below_new wr (.cells #[.string kd, .string tx, .int .i64 nm, .slice a1 n1 cap1] 24)))
      have HW0 := Lib.hid (behind hbw (below_new wr (.cells #[.string kd, .string tx, .int .i64 nm, .slice a1 n1 cap1] 24)))
      have STEP := Lib.hid (fun hg : Good (kids.getD k default) => good_step HDN.out hg)
      have HM1 := Lib.hid hx.nv
      clear hx hbw hlk
      go_wp2_with fail
      refine (HA.out.at HB0.out HT0.out HD1.out).mono ?_
      rintro e w1 ⟨bb, rfl, hp1, hb1⟩
      have HP1 := Lib.hid hp1
      have HW1 := Lib.hid (behind HW0.out hb1)
      clear hp1 hb1
      cases bb with
      | false =>
        go_wp2_with fail
        go_ret
        exact .no (behind HWW.out HW1.out)
      | true =>
        go_wp2_with fail
        go_roundw
        case rel => exact ⟨k + 1, by omega, by go_num, HW1.out, STEP.out (HP1.out (by simp))⟩
        case measure => simp [intOf]; omega
    · obtain rfl : k = m + 1 := by omega
      go_wp2_with fail
      go_ret
      exact .yes ⟨k0, kids, rfl, good_all HN.out HDN.out⟩ (behind HWW.out hbw)

set_option maxHeartbeats 4000000 in
theorem isArg_of (d : Nat) (hT : Wk 38 Good (d + 1)) (hL : Wk 58 LitP (d + 1)) (hA : Wk 42 Good d) : Wk 42 Good (d + 1) := by
  intro t kind text num a n cap w h ht hd
  have hcap := h.cap
  obtain ⟨kids, rfl, hz1, hz2, hn, hm, hk⟩ := h.kids
  have HD := Lib.hid (show ∀ k ∈ kids, Dep d k from hd)
  have HDT := Lib.hid hd
  have HZ1 := Lib.hid hz1
  have HZ2 := Lib.hid hz2
  have HM := Lib.hid hm
  unfold maxLen at hz1 hz2 hm
  have HB0 := Lib.hid (box_at h)
  have HT0 := Lib.hid (ht.keep (below_new w (.cells #[.string kind, .string text, .int .i64 num, .slice a n cap] 24)))
  have HK0 := Lib.hid (hk.keep (below_new w (.cells #[.string kind, .string text, .int .i64 num, .slice a n cap] 24)))
  have HW0 := Lib.hid (below_new w (.cells #[.string kind, .string text, .int .i64 num, .slice a n cap] 24))
  have HN := Lib.hid hn
  clear hk h ht hd hn
  have HA := Lib.hid hA
  have HTY := Lib.hid hT
  have HL := Lib.hid hL
  clear hA hT hL hcap
  rcases bt (kind.toList == [76, 105, 116, 101, 114, 97, 108]) with qLiteral | qLiteral
  · go_enter Tryz.func42, Tryz.ntmps42
    go_wp2_with fail
    refine (HL.out.at HB0.out HT0.out HDT.out).mono ?_
    rintro e w1 ⟨b1, rfl, hp1, hb1⟩
    have HP1 := Lib.hid hp1
    have HB1 := Lib.hid (HB0.out.keep hb1)
    have HT1 := Lib.hid (HT0.out.keep hb1)
    have HK1 := Lib.hid (HK0.out.keep hb1)
    have HW1 := Lib.hid (behind HW0.out hb1)
    clear hp1 hb1
    obtain ⟨xb0, xb1, xb2, xb3⟩ := HB1.out.box
    cases b1 with
    | false =>
      go_wp2_with fail
      go_ret
      exact .no HW1.out
    | true =>
      go_wp2_with fail
      go_ret
      exact .yes (by obtain ⟨k, e, hg⟩ := HP1.out (by simp); simp [NT.kids] at e; subst e; exact .one (memK qLiteral (by simp [oneK])) hg) HW1.out
  rcases bt (kind.toList == [65, 114, 103, 117, 109, 101, 110, 116, 80, 97, 99, 107]) with qArgumentPack | qArgumentPack
  · rcases bt text.toList.isEmpty with qt | qt
    rotate_left
    · go_enter Tryz.func42, Tryz.ntmps42
      go_wp2_with fail
      go_ret
      exact .no HW0.out
    by_cases hz0 : num = 0
    rotate_left
    · have qz : (num == 0) = false := by simpa using hz0
      go_enter Tryz.func42, Tryz.ntmps42
      go_wp2_with fail
      all_goals (go_ret; exact .no HW0.out)
    subst hz0
    have hm2 : n ≤ 9223372036854775807 := by omega
    clear hm hz1 hz2
    go_enter Tryz.func42, Tryz.ntmps42
    go_wp2_with fail
    have HT := Lib.hid HT0.out
    have HK := Lib.hid HK0.out
    have HWW := Lib.hid HW0.out
    clear HT0 HW0 HB0 HK0 HDT HZ1 HZ2 HM
    generalize (w.alloc (.cells #[.string kind, .string text, .int .i64 0, .slice a n cap] 24)) = w0 at *
    go_loopw [24] (fun i wr => ∃ (k : Nat), k ≤ n ∧ i = .int .i64 k ∧ Below w0.heap.size w0 wr ∧ ∀ x, x < k → Good (kids.getD x default)) (fun i _ => n - (intOf i).toNat)
    case atStart => exact ⟨0, Nat.zero_le _, rfl, Below.refl _ _, fun x hx => by omega⟩
    case round =>
      obtain ⟨k, hk, rfl, hbw, hdone⟩ := hrel
      have HDN := Lib.hid hdone
      clear hdone
      by_cases hlt : k < n
      · have hlt2 : (k : Int) < (n : Int) := by omega
        have hlk : k < kids.length := by rw [← HN.out]; exact hlt
        obtain ⟨b, off, kd, tx, nm, a1, n1, cap1, rfl, hx⟩ := (HK.out.keep hbw).nth k hlk
        have HD1 := Lib.hid (HD.out _ (getD_mem hlk))
        obtain ⟨g0, g1, g2, g3⟩ := hx.cells
        have HB0 := Lib.hid (box_at hx.nv)
        have HT0 := Lib.hid ((HT.out.keep hbw).keep (below_new wr (.cells #[.string kd, .string tx, .int .i64 nm, .slice a1 n1 cap1] 24)))
        have HW0 := Lib.hid (behind hbw (below_new wr (.cells #[.string kd, .string tx, .int .i64 nm, .slice a1 n1 cap1] 24)))
        have STEP := Lib.hid (fun hg : Good (kids.getD k default) => good_step HDN.out hg)
        have HM1 := Lib.hid hx.nv
        clear hx hbw hlk
        rcases bt (kd.toList == [65, 114, 103, 117, 109, 101, 110, 116, 80, 97, 99, 107]) with qk | qk
        · go_wp2_with fail
          go_ret
          exact .no (behind HWW.out HW0.out)
        go_wp2_with fail
        refine (HA.out.at HB0.out HT0.out HD1.out).mono ?_
        rintro e w1 ⟨bb, rfl, hp1, hb1⟩
        have HP1 := Lib.hid hp1
        have HW1 := Lib.hid (behind HW0.out hb1)
        clear hp1 hb1
        cases bb with
        | false =>
          go_wp2_with fail
          go_ret
          exact .no (behind HWW.out HW1.out)
        | true =>
          go_wp2_with fail
          go_roundw
          case rel => exact ⟨k + 1, by omega, by go_num, HW1.out, STEP.out (HP1.out (by simp))⟩
          case measure => simp [intOf]; omega
      · obtain rfl : k = n := by omega
        go_wp2_with fail
        go_ret
        exact .yes (.list (memK qArgumentPack (by simp [listK])) (good_all HN.out HDN.out)) (behind HWW.out hbw)
  go_enter Tryz.func42, Tryz.ntmps42
  go_wp2_with fail
  refine (HTY.out.at HB0.out HT0.out HDT.out).mono ?_
  rintro e w1 ⟨b1, rfl, hp1, hb1⟩
  have HP1 := Lib.hid hp1
  have HB1 := Lib.hid (HB0.out.keep hb1)
  have HT1 := Lib.hid (HT0.out.keep hb1)
  have HK1 := Lib.hid (HK0.out.keep hb1)
  have HW1 := Lib.hid (behind HW0.out hb1)
  clear hp1 hb1
  obtain ⟨xb0, xb1, xb2, xb3⟩ := HB1.out.box
  cases b1 with
  | false =>
    go_wp2_with fail
    go_ret
    exact .no HW1.out
  | true =>
    go_wp2_with fail
    go_ret
    exact .yes (HP1.out (by simp)) HW1.out

end Go.Proofs.YtdlhhdhooacogaaGreatDoor

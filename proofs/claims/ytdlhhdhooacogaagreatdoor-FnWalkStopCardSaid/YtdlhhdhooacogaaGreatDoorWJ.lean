/-
  Lists of trees: areParams, areStraight, isTemplate, isArg.
-/
import Derived.Test.YtdlhhdhooacogaaGreatDoorWI
namespace Go.Proofs.YtdlhhdhooacogaaGreatDoor
open Go.RowKit

theorem good_step {kids : List NT} {k : Nat} (h : ∀ x, x < k → Good (kids.getD x default)) (hg : Good (kids.getD k default)) : ∀ x, x < k + 1 → Good (kids.getD x default) := by
  intro x hx
  by_cases hxk : x < k
  · exact h x hxk
  · obtain rfl : x = k := by omega
    exact hg

theorem good_all {kids : List NT} {n : Nat} (hn : n = kids.length) (h : ∀ x, x < n → Good (kids.getD x default)) : ∀ k ∈ kids, Good k := by
  intro k hk
  obtain ⟨x, hx, e⟩ := List.getElem_of_mem hk
  have := h x (by omega)
  have e2 : kids.getD x default = kids[x] := by simp [List.getD, hx]
  rw [e2, e] at this
  exact this

/-- A contract over a list of trees. -/
def WkL (f : FuncId) (d : Nat) : Prop := ∀ (kids : List NT) (a : Option Addr) (n cap : Nat) (w : World), Kids w a kids → n = kids.length → n ≤ maxLen → Tabs w → (∀ k ∈ kids, Dep d k) →
  Calls Tryz.prog f #[.slice a n cap] w (SaysIf (∀ k ∈ kids, Good k) w)

/-- A leaf that is known by its word. -/
theorem NV.leaf {w : World} {kd tx : ByteArray} {nm : Int} {a : Option Addr} {cap : Nat} {t : NT} (h : NV w [.string kd, .string tx, .int .i64 nm, .slice a 0 cap] t) (hk : kd ∈ leafK) : Good t := by
  obtain ⟨ks, e, _, _, e0, _, _⟩ := h.kids
  obtain rfl := nil_of e0 rfl
  subst e
  exact .leaf hk

set_option maxRecDepth 100000 in
set_option maxHeartbeats 4000000 in
theorem areParams_of (d : Nat) (hT : Wk 38 Good d) : WkL 19 d := by
  intro kids a n cap w hk hn hm ht hd
  have HTY := Lib.hid hT
  have HK := Lib.hid hk
  have HN := Lib.hid hn
  have HT := Lib.hid ht
  have HD := Lib.hid hd
  have hm2 : n ≤ 9223372036854775807 := by unfold maxLen at hm; omega
  clear hT hk hn hm ht hd
  go_enter Tryz.func19, Tryz.ntmps19
  go_wp2_with fail
  go_loopw [7] (fun i wr => ∃ (k : Nat), k ≤ n ∧ i = .int .i64 k ∧ Below w.heap.size w wr ∧ ∀ x, x < k → Good (kids.getD x default)) (fun i _ => n - (intOf i).toNat)
  case atStart => exact ⟨0, Nat.zero_le _, rfl, Below.refl _ _, fun x hx => by omega⟩
  case round =>
    obtain ⟨k, hk, rfl, hbw, hdone⟩ := hrel
    have HDN := Lib.hid hdone
    clear hdone
    by_cases hlt : k < n
    · have hlt2 : (k : Int) < (n : Int) := by omega
      have hlk : k < kids.length := by rw [← HN.out]; exact hlt
      obtain ⟨b, off, kd, tx, nm, a1, n1, cap1, rfl, hx⟩ := (HK.out.keep hbw).nth k hlk
      have HD1 := Lib.hid (HD.out _ (getD_mem hlk))
      obtain ⟨g0, g1, g2, g3⟩ := hx.cells
      have HB0 := Lib.hid (box_at hx.nv)
      have HT0 := Lib.hid ((HT.out.keep hbw).keep (below_new wr (.cells #[.string kd, .string tx, .int .i64 nm, .slice a1 n1 cap1] 24)))
      have HW0 := Lib.hid (behind hbw (below_new wr (.cells #[.string kd, .string tx, .int .i64 nm, .slice a1 n1 cap1] 24)))
      have STEP := Lib.hid (fun hg : Good (kids.getD k default) => good_step HDN.out hg)
      have HM1 := Lib.hid hx.nv
      clear hx hbw hlk
      rcases bt (kd.toList == [66, 117, 105, 108, 116, 105, 110, 84, 121, 112, 101]) with qk | qk
      · rcases bt (tx.toList == [46, 46, 46]) with qt | qt
        · by_cases hlast : (k : Int) < (n : Int) - 1
          · go_wp2_with fail
            go_ret
            exact .no HW0.out
          have ql : decide ((k : Int) < (n : Int) - 1) = false := by simpa using hlast
          by_cases hnm : nm = 0
          rotate_left
          · have q3 : (nm == 0) = false := by simpa using hnm
            go_wp2_with fail
            go_ret
            exact .no HW0.out
          subst hnm
          by_cases hn1 : n1 = 0
          rotate_left
          · have q3 : 0 < n1 := by omega
            go_wp2_with fail
            go_ret
            exact .no HW0.out
          subst hn1
          go_wp2_with fail
          go_roundw
          case rel => exact ⟨k + 1, by omega, by go_num, HW0.out, STEP.out (HM1.out.leaf (memK qk (by simp [leafK])))⟩
          case measure => simp [intOf]; omega
        · go_wp2_with fail
          refine (HTY.out.at HB0.out HT0.out HD1.out).mono ?_
          rintro e w1 ⟨bb, rfl, hp1, hb1⟩
          have HP1 := Lib.hid hp1
          have HW1 := Lib.hid (behind HW0.out hb1)
          obtain ⟨x0, x1, x2, x3⟩ := (HB0.out.keep hb1).box
          clear hp1 hb1
          cases bb with
          | false =>
            go_wp2_with fail
            go_ret
            exact .no HW1.out
          | true =>
            rcases bt (tx.toList == [118, 111, 105, 100]) with qv | qv
            · go_wp2_with fail
              go_ret
              exact .no HW1.out
            · go_wp2_with fail
              go_roundw
              case rel => exact ⟨k + 1, by omega, by go_num, HW1.out, STEP.out (HP1.out (by simp))⟩
              case measure => simp [intOf]; omega
      · go_wp2_with fail
        refine (HTY.out.at HB0.out HT0.out HD1.out).mono ?_
        rintro e w1 ⟨bb, rfl, hp1, hb1⟩
        have HP1 := Lib.hid hp1
        have HW1 := Lib.hid (behind HW0.out hb1)
        obtain ⟨x0, x1, x2, x3⟩ := (HB0.out.keep hb1).box
        clear hp1 hb1
        cases bb with
        | false =>
          go_wp2_with fail
          go_ret
          exact .no HW1.out
        | true =>
          go_wp2_with fail
          go_roundw
          case rel => exact ⟨k + 1, by omega, by go_num, HW1.out, STEP.out (HP1.out (by simp))⟩
          case measure => simp [intOf]; omega
    · obtain rfl : k = n := by omega
      go_wp2_with fail
      go_ret
      exact .yes (good_all HN.out HDN.out) hbw

set_option maxRecDepth 100000 in
set_option maxHeartbeats 4000000 in
theorem areStraight_of (d : Nat) (hP : WkL 19 d) : WkL 41 d := by
  intro kids a n cap w hk hn hm ht hd
  have HP := Lib.hid hP
  have HK := Lib.hid hk
  have HN := Lib.hid hn
  have HT := Lib.hid ht
  have HD := Lib.hid hd
  have HM := Lib.hid hm
  have HTU := Lib.hid (turned_any d).toWk
  have hm2 : n ≤ 9223372036854775807 := by unfold maxLen at hm; omega
  clear hP hk hn hm ht hd
  go_enter Tryz.func41, Tryz.ntmps41
  go_wp2_with fail
  go_loopw [7] (fun i wr => ∃ (k : Nat), k ≤ n ∧ i = .int .i64 k ∧ Below w.heap.size w wr ∧ ∀ x, x < 0 → Good (kids.getD x default)) (fun i _ => n - (intOf i).toNat)
  case atStart => exact ⟨0, Nat.zero_le _, rfl, Below.refl _ _, fun x hx => by omega⟩
  case round =>
    obtain ⟨k, hk, rfl, hbw, hdone⟩ := hrel
    have HDN := Lib.hid hdone
    clear hdone
    by_cases hlt : k < n
    · have hlt2 : (k : Int) < (n : Int) := by omega
      have hlk : k < kids.length := by rw [← HN.out]; exact hlt
      obtain ⟨b, off, kd, tx, nm, a1, n1, cap1, rfl, hx⟩ := (HK.out.keep hbw).nth k hlk
      have HD1 := Lib.hid (HD.out _ (getD_mem hlk))
      obtain ⟨g0, g1, g2, g3⟩ := hx.cells
      have HB0 := Lib.hid (box_at hx.nv)
      have HT0 := Lib.hid ((HT.out.keep hbw).keep (below_new wr (.cells #[.string kd, .string tx, .int .i64 nm, .slice a1 n1 cap1] 24)))
      have HW0 := Lib.hid (behind hbw (below_new wr (.cells #[.string kd, .string tx, .int .i64 nm, .slice a1 n1 cap1] 24)))
      have HM1 := Lib.hid hx.nv
      clear hx hbw hlk
      go_wp2_with fail
      refine (HTU.out.at HB0.out HT0.out HD1.out).mono ?_
      rintro e w1 ⟨bb, rfl, _, hb1⟩
      have HW1 := Lib.hid (behind HW0.out hb1)
      clear hb1
      cases bb with
      | true =>
        go_wp2_with fail
        go_ret
        exact .no HW1.out
      | false =>
        go_wp2_with fail
        go_roundw
        case rel => exact ⟨k + 1, by omega, by go_num, HW1.out, fun x hx => by omega⟩
        case measure => simp [intOf]; omega
    · go_wp2_with fail
      refine (HP.out kids a n cap _ (HK.out.keep hbw) HN.out HM.out (HT.out.keep hbw) HD.out).mono ?_
      rintro e w1 ⟨bb, rfl, hp1, hb1⟩
      have HP1 := Lib.hid hp1
      have HW1 := Lib.hid (behind hbw hb1)
      clear hp1 hb1
      go_wp2_with fail
      go_ret
      exact ⟨_, rfl, HP1.out, HW1.out⟩

end Go.Proofs.YtdlhhdhooacogaaGreatDoor

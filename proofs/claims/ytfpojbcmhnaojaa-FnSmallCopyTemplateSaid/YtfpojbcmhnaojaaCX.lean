/-
  The law FnSmallCopyTemplate, walked: true, whatever the input.
-/
import Derived.Test.YtfpojbcmhnaojaaCW
namespace Go.Proofs.Ytfpojbcmhnaojaa
open Go.RowKit

/-- True; nothing that was there has turned. -/
def Yes (w : World) (e : Ending) (w' : World) : Prop := e = .returned (.bool true) ∧ Below w.heap.size w w'

set_option maxHeartbeats 400000 in
theorem fits_big (a : Option Addr) (n cap : Nat) (w : World) (hn : 2147483647 < n) (hm : n ≤ maxLen) :
    Calls Try.prog 4 #[.slice a n cap] w fun e w' => e = .returned (.bool false) ∧ w = w' := by
  unfold maxLen at hm
  go_enter Try.func4, Try.ntmps4
  go_wp2_with fail
  go_ret
  exact ⟨rfl, rfl⟩

/-- zzFits3, whatever the list. -/
theorem fits_is (a : Option Addr) (n cap : Nat) (ss : List ByteArray) (w : World) (h : Strs w a n ss) (hm : n ≤ maxLen) (hs : ∀ s ∈ ss, s.size ≤ maxLen) (b : Bool) (hb : b = (decide (n ≤ 2147483647) && fitsB ss)) :
    Calls Try.prog 4 #[.slice a n cap] w fun e w' => e = .returned (.bool b) ∧ w = w' := by
  by_cases hn : n ≤ 2147483647
  · rw [hb, decide_eq_true hn, Bool.true_and]
    exact fits_any a n cap ss w h hn hs
  · rw [hb, decide_eq_false hn, Bool.false_and]
    exact fits_big a n cap w (by omega) hm

section
variable (s frm to : ByteArray) (a : Option Addr) (n cap : Nat) (ss : List ByteArray) (w : World)

set_option maxHeartbeats 1000000 in
theorem law_s (hs : s.size ≤ maxLen) (h1 : 2147483647 < s.size) : Calls Try.prog 3 #[.string s, .slice a n cap, .string frm, .string to] w (Yes w) := by
  unfold maxLen at hs
  go_enter Try.func3, Try.ntmps3
  go_wp2_with fail
  go_ret
  exact ⟨rfl, Below.refl _ _⟩

set_option maxHeartbeats 1000000 in
theorem law_fits (h1 : s.size ≤ 2147483647)
    (hf : Calls Try.prog 4 #[.slice a n cap] w fun e w' => e = .returned (.bool false) ∧ w = w') : Calls Try.prog 3 #[.string s, .slice a n cap, .string frm, .string to] w (Yes w) := by
  have HF := Lib.hid hf
  clear hf
  go_enter Try.func3, Try.ntmps3
  go_wp2_with fail
  refine HF.out.mono ?_
  rintro e w1 ⟨rfl, rfl⟩
  go_wp2_with fail
  go_ret
  exact ⟨rfl, Below.refl _ _⟩

set_option maxHeartbeats 1000000 in
theorem law_frm (h1 : s.size ≤ 2147483647) (h2 : 2147483647 < frm.size) (h3 : frm.size ≤ maxLen)
    (hf : Calls Try.prog 4 #[.slice a n cap] w fun e w' => e = .returned (.bool true) ∧ w = w') : Calls Try.prog 3 #[.string s, .slice a n cap, .string frm, .string to] w (Yes w) := by
  have HF := Lib.hid hf
  clear hf
  unfold maxLen at h3
  go_enter Try.func3, Try.ntmps3
  go_wp2_with fail
  refine HF.out.mono ?_
  rintro e w1 ⟨rfl, rfl⟩
  go_wp2_with fail
  go_ret
  exact ⟨rfl, Below.refl _ _⟩

set_option maxHeartbeats 1000000 in
theorem law_to (h1 : s.size ≤ 2147483647) (h2 : frm.size ≤ 2147483647) (h3 : to.size ≤ maxLen) (h4 : 2147483647 < to.size)
    (hf : Calls Try.prog 4 #[.slice a n cap] w fun e w' => e = .returned (.bool true) ∧ w = w') : Calls Try.prog 3 #[.string s, .slice a n cap, .string frm, .string to] w (Yes w) := by
  have HF := Lib.hid hf
  clear hf
  unfold maxLen at h3
  go_enter Try.func3, Try.ntmps3
  go_wp2_with fail
  refine HF.out.mono ?_
  rintro e w1 ⟨rfl, rfl⟩
  go_wp2_with fail
  go_ret
  exact ⟨rfl, Below.refl _ _⟩

set_option maxHeartbeats 1000000 in
theorem law_long (h1 : s.size ≤ 2147483647) (h2 : frm.size ≤ 2147483647) (h4 : to.size ≤ 2147483647) (h5 : 1000 < n) (h6 : n ≤ maxLen)
    (hf : Calls Try.prog 4 #[.slice a n cap] w fun e w' => e = .returned (.bool true) ∧ w = w') : Calls Try.prog 3 #[.string s, .slice a n cap, .string frm, .string to] w (Yes w) := by
  have HF := Lib.hid hf
  clear hf
  unfold maxLen at h6
  go_enter Try.func3, Try.ntmps3
  go_wp2_with fail
  refine HF.out.mono ?_
  rintro e w1 ⟨rfl, rfl⟩
  go_wp2_with fail
  go_ret
  exact ⟨rfl, Below.refl _ _⟩

theorem ren_cons (ss : List ByteArray) : renList frm to (s :: ss) = [Value.string (ren frm to s)] ++ renList frm to ss := rfl

set_option maxHeartbeats 2000000 in
theorem law_main (h1 : s.size ≤ 2147483647) (h2 : frm.size ≤ 2147483647) (h4 : to.size ≤ 2147483647) (h5 : n ≤ 1000) (hst : Strs w a n ss) (hcap : a = none → cap = 0)
    (hf : Calls Try.prog 4 #[.slice a n cap] w fun e w' => e = .returned (.bool true) ∧ w = w') : Calls Try.prog 3 #[.string s, .slice a n cap, .string frm, .string to] w (Yes w) := by
  have HF := Lib.hid hf
  clear hf
  have HS := Lib.hid hst
  have HC := Lib.hid hcap
  obtain ⟨i0, hi, hz0, hz1, hz2⟩ := info_parts Try.infoStr
  clear hst hcap
  go_enter Try.func3, Try.ntmps3
  go_wp2_with fail
  refine HF.out.mono ?_
  rintro e w1 ⟨rfl, rfl⟩
  go_wp2_with (at_builtin; refine wpList_append_src _ rfl _ _ 22 22 rfl w.heap.size 9 i0 (.string ⟨#[]⟩) 1 16 Try.underlying22 hi hz0 hz1 hz2 rfl _ _ 1 [.string s] rfl rfl (World.ownsRow_lit w #[.string s] 1 (Nat.le_refl _) (by decide) rfl) n (ss.map Value.string) ((HS.out.keep ((Below.refl _ _).alloc (Nat.le_refl _) _)).src HC.out) ?c3 (by omega) (by simp) ?_)
  case c3 => unfold maxLen; omega
  intro v1 w1 hown1 hg1
  have hb1 : Below w.heap.size w w1 := ((Below.refl _ _).alloc (Nat.le_refl _) _).grown hg1 (by simp) (fun k hk => by simp [Value.ownBlock] at hk; omega)
  obtain ⟨a1, cap1, rfl, hs1, _⟩ := Strs.ofOwn (n := 1 + n) (ss := s :: ss) hown1
  clear hown1 hg1
  go_wp2_with fail
  refine (renamed_any a1 (1 + n) cap1 (s :: ss) frm to w1 hs1 (by omega)).mono ?_
  rintro e w2 ⟨v2, rfl, hown2, hb2⟩
  have hbw2 := hb1.trans (hb2.mono hb1.size)
  go_wp2_with fail
  refine (copy_any a n cap s frm to ss w2 (HS.out.keep hbw2) h5).mono ?_
  rintro e w3 ⟨hb3, s', v3, ok, rfl, hr⟩
  have hbw3 := hbw2.trans (hb3.mono hbw2.size)
  have hg3 : w2.grownBy w3 none := ⟨hb3.os, hb3.tape, hb3.output, hb3.size, fun k hk _ => hb3.block k hk⟩
  have hown2' := hown2.kept hg3 (by cases v2.ownBlock <;> simp)
  clear hown2 hb2 hb3 hg3 hs1
  rcases hr with ⟨hh, rfl, rfl, hown3⟩ | ⟨hh, rfl⟩
  · rw [hh]
    obtain ⟨a2, cap2, rfl, hs2, _⟩ := Strs.ofOwn (ss := (s :: ss).map (ren frm to)) hown2'
    obtain ⟨a3, cap3, rfl, hs3, hc3⟩ := Strs.ofOwn (ss := ss.map (ren frm to)) hown3
    have hln : ss.length = n := HS.out.len
    rw [List.length_cons, hln] at hs2
    rw [hln] at hs3
    rw [List.length_cons, hln]
    have HS2 := Lib.hid hs2
    have HS3 := Lib.hid hs3
    have HC3 := Lib.hid hc3
    have HLN := Lib.hid hln
    generalize hq : ren frm to s = q at *
    have HQ := Lib.hid hq
    clear hown2' hown3 hs2 hs3 hc3 hh hln hq
    go_wp2_with (at_builtin; refine wpList_append_src_g _ rfl _ _ 22 22 rfl w3.heap.size 9 i0 (.string ⟨#[]⟩) 1 16 Try.underlying22 hi hz0 hz1 hz2 rfl _ _ 1 [.string q] rfl rfl (World.ownsRow_lit w3 #[.string q] 1 (Nat.le_refl _) (by decide) rfl) n ((ss.map (ren frm to)).map Value.string) ((HS3.out.keep ((Below.refl _ _).alloc (Nat.le_refl _) _)).src HC3.out) ?c4 (by omega) (by simp) ?_)
    case c4 => unfold maxLen; omega
    intro v4 w4 hown4 hg4
    have hb4 : Below w3.heap.size w3 w4 := ((Below.refl _ _).alloc (Nat.le_refl _) _).grown hg4 (by simp) (fun k hk => by simp [Value.ownBlock] at hk; omega)
    obtain ⟨a4, cap4, rfl, hs4, _⟩ := Strs.ofOwn (n := 1 + n) (ss := q :: ss.map (ren frm to)) (by simpa using hown4)
    have hbw4 := hbw3.trans (hb4.mono hbw3.size)
    have hs2' := HS2.out.keep hb4
    have HS4 := Lib.hid hs4
    have HS2' := Lib.hid hs2'
    clear hown4 hg4 hs4 hs2'
    rw [Nat.add_comm n 1] at HS2'
    rw [Nat.add_comm n 1]
    go_wp2_with fail
    refine (same_yes a4 a2 (1 + n) cap4 cap2 (q :: ss.map (ren frm to)) w4 HS4.out (by have := HS2'.out; rw [List.map_cons, HQ.out] at this; exact this) (by omega)).mono ?_
    rintro e w5 ⟨rfl, hb5⟩
    go_wp2_with fail
    go_ret
    exact ⟨rfl, hbw4.trans (hb5.mono hbw4.size)⟩
  · rw [hh]
    clear hown2' hh
    go_wp2_with fail
    go_ret
    exact ⟨rfl, hbw3⟩
end

theorem law_any (s : ByteArray) (hs : s.size ≤ maxLen) (a : Option Addr) (n cap : Nat) (ss : List ByteArray) {w0 : World} (h : StrArg w0 a n cap ss) (frm : ByteArray) (hf : frm.size ≤ maxLen) (to : ByteArray) (ht : to.size ≤ maxLen) (w : World) (hw : w = w0 := by rfl) :
    Calls Try.prog 3 #[.string s, .slice a n cap, .string frm, .string to] w (Yes w) := by
  subst hw
  by_cases h1 : 2147483647 < s.size
  · exact law_s s frm to a n cap w hs h1
  have hfit := fits_is a n cap ss w h.strs h.len h.sizes
  by_cases h2 : (decide (n ≤ 2147483647) && fitsB ss) = false
  · exact law_fits s frm to a n cap w (by omega) (hfit false h2.symm)
  have h2' : (decide (n ≤ 2147483647) && fitsB ss) = true := by simpa using h2
  have hf1 := hfit true h2'.symm
  by_cases h3 : 2147483647 < frm.size
  · exact law_frm s frm to a n cap w (by omega) h3 hf hf1
  by_cases h4 : 2147483647 < to.size
  · exact law_to s frm to a n cap w (by omega) (by omega) ht h4 hf1
  by_cases h5 : 1000 < n
  · exact law_long s frm to a n cap w (by omega) (by omega) (by omega) h5 h.len hf1
  exact law_main s frm to a n cap ss w (by omega) (by omega) (by omega) (by omega) h.strs h.nil hf1

end Go.Proofs.Ytfpojbcmhnaojaa

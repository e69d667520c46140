/-
  Has, Same: they hand back some bool.
-/
import Derived.Test.YtdlhhdhooacogaaGreatDoorWG
import Derived.StillTailTactics
namespace Go.Proofs.YtdlhhdhooacogaaGreatDoor
open Go.RowKit

theorem Kids.nth {w : World} {a : Option Addr} {kids : List NT} (h : Kids w a kids) (i : Nat) (hi : i < kids.length) : ∃ b off kd tx nm a' n' cap', a = some ⟨b, off, none⟩ ∧ KidAt w b (off + i * 4) (kids.getD i default) kd tx nm a' n' cap' := by
  rcases h with h | ⟨b, off, e, h⟩
  · subst h; simp at hi
  · obtain ⟨kd, tx, nm, a', n', cap', h0⟩ := h i _ (List.getElem?_eq_getElem hi)
    refine ⟨b, off, kd, tx, nm, a', n', cap', e, ?_⟩
    have : kids.getD i default = kids[i] := by simp [List.getD, hi]
    rw [this]
    exact h0

theorem getD_mem {kids : List NT} {i : Nat} (hi : i < kids.length) : kids.getD i default ∈ kids := by
  have : kids.getD i default = kids[i] := by simp [List.getD, hi]
  rw [this]
  exact List.getElem_mem hi

theorem Kids.same {w : World} {a : Option Addr} {kids : List NT} (h : Kids w a kids) (i : Nat) (hi : i < kids.length) {b off : Nat} (e : a = some ⟨b, off, none⟩) : ∃ kd tx nm a' n' cap', KidAt w b (off + i * 4) (kids.getD i default) kd tx nm a' n' cap' := by
  obtain ⟨b', off', kd, tx, nm, a', n', cap', e', hk⟩ := h.nth i hi
  rw [e] at e'
  cases e'
  exact ⟨_, _, _, _, _, _, hk⟩

set_option maxRecDepth 100000 in
set_option maxHeartbeats 2000000 in
theorem has_any (d : Nat) : ∀ (t : NT) (kind text : ByteArray) (num : Int) (a : Option Addr) (n cap : Nat) (s : ByteArray) (w : World), NV w [.string kind, .string text, .int .i64 num, .slice a n cap] t → Dep d t →
    Calls Tryz.prog 46 #[.agg #[.string kind, .string text, .int .i64 num, .slice a n cap], .string s] w (SaysIf True w) := by
  induction d with
  | zero => intro t kind text num a n cap s w h hd; exact absurd hd id
  | succ d ih =>
    intro t kind text num a n cap s w h hd
    obtain ⟨kids, rfl, hz1, hz2, hn, hm, hk⟩ := h.kids
    have IH := Lib.hid ih
    have HD := Lib.hid (show ∀ k ∈ kids, Dep d k from hd)
    have HK := Lib.hid hk
    have HN := Lib.hid hn
    have hm2 : n ≤ 9223372036854775807 := by unfold maxLen at hm; omega
    clear ih hd h hk hn hz1 hz2 hm
    rcases bt (kind.toList == s.toList) with q | q
    · go_enter Tryz.func46, Tryz.ntmps46
      go_wp2_with fail
      go_ret
      exact .any (below_new _ _)
    · go_enter Tryz.func46, Tryz.ntmps46
      go_wp2_with fail
      go_loopw [14] (fun i wr => ∃ (k : Nat), k ≤ n ∧ i = .int .i64 k ∧ Below w.heap.size w wr) (fun i _ => n - (intOf i).toNat)
      case atStart => exact ⟨0, Nat.zero_le _, rfl, below_new _ _⟩
      case round =>
        obtain ⟨k, hk, rfl, hbw⟩ := hrel
        by_cases hlt : k < n
        · have hlk : k < kids.length := by rw [← HN.out]; exact hlt
          obtain ⟨b, off, kd, tx, nm, a', n', cap', rfl, hx⟩ := (HK.out.keep hbw).nth k hlk
          have HD1 := Lib.hid (HD.out _ (getD_mem hlk))
          obtain ⟨g0, g1, g2, g3⟩ := hx.cells
          have HC := Lib.hid (IH.out _ kd tx nm a' n' cap' s _ (hx.nv.keep (below_new wr (.cells #[.string kd, .string tx, .int .i64 nm, .slice a' n' cap'] 24))) HD1.out)
          have HB := Lib.hid (behind hbw (below_new wr (.cells #[.string kd, .string tx, .int .i64 nm, .slice a' n' cap'] 24)))
          clear hx hbw hlk
          go_wp2_with fail
          refine HC.out.mono ?_
          rintro e w2 ⟨bb, rfl, _, hb2⟩
          have HB2 := Lib.hid (behind HB.out hb2)
          clear hb2
          cases bb with
          | true =>
            go_wp2_with fail
            go_ret
            exact .any HB2.out
          | false =>
            go_wp2_with fail
            go_roundw
            case rel => exact ⟨k + 1, by omega, by go_num, HB2.out⟩
            case measure => simp [intOf]; omega
        · go_wp2_with fail
          go_ret
          exact .any hbw


/-- Two nodes are the same: some bool; where true, kind and number of kids are. -/
def SaysSame (k1 k2 : ByteArray) (n1 n2 : Nat) (w : World) (e : Ending) (w' : World) : Prop := SaysIf (k1 = k2 ∧ n1 = n2) w e w'

set_option maxRecDepth 100000 in
set_option maxHeartbeats 4000000 in
theorem same_any (d : Nat) : ∀ (t t' : NT) (kind text kind' text' : ByteArray) (num num' : Int) (a a' : Option Addr) (n cap n' cap' : Nat) (w : World), NV w [.string kind, .string text, .int .i64 num, .slice a n cap] t → NV w [.string kind', .string text', .int .i64 num', .slice a' n' cap'] t' → Dep d t →
    Calls Tryz.prog 23 #[.agg #[.string kind, .string text, .int .i64 num, .slice a n cap], .agg #[.string kind', .string text', .int .i64 num', .slice a' n' cap']] w (SaysSame kind kind' n n' w) := by
  induction d with
  | zero => intro t t' kind text kind' text' num num' a a' n cap n' cap' w h h' hd; exact absurd hd id
  | succ d ih =>
    intro t t' kind text kind' text' num num' a a' n cap n' cap' w h h' hd
    obtain ⟨kids, rfl, hz1, hz2, hn, hm, hk⟩ := h.kids
    obtain ⟨kids', rfl, hz1', hz2', hn', hm', hk'⟩ := h'.kids
    have HW0 := Lib.hid (behind (below_new w (.cells #[.string kind, .string text, .int .i64 num, .slice a n cap] 24)) (below_new _ (.cells #[.string kind', .string text', .int .i64 num', .slice a' n' cap'] 24)))
    have HN := Lib.hid hn
    have HN' := Lib.hid hn'
    clear hn hn'
    rcases bt (kind.toList == kind'.toList) with q1 | q1
    rotate_left
    · go_enter Tryz.func23, Tryz.ntmps23
      go_wp2_with fail
      go_ret
      exact .no HW0.out
    rcases bt (text.toList == text'.toList) with q2 | q2
    rotate_left
    · go_enter Tryz.func23, Tryz.ntmps23
      go_wp2_with fail
      go_ret
      exact .no HW0.out
    by_cases hnum : num = num'
    rotate_left
    · have q3 : (num == num') = false := by simpa using hnum
      clear hnum
      go_enter Tryz.func23, Tryz.ntmps23
      go_wp2_with fail
      go_ret
      exact .no HW0.out
    subst hnum
    by_cases hnn : n = n'
    rotate_left
    · have q3 : ((n : Int) == (n' : Int)) = false := by simp; omega
      clear hnn
      go_enter Tryz.func23, Tryz.ntmps23
      go_wp2_with fail
      go_ret
      exact .no HW0.out
    subst hnn
    have HQ1 := Lib.hid (show kind = kind' by have h1 := eq_of_beq q1; rw [ByteArray.toList_eq, ByteArray.toList_eq] at h1; exact ByteArray.ext (Array.toList_inj.mp h1))
    have IH := Lib.hid ih
    have HD := Lib.hid (show ∀ k ∈ kids, Dep d k from hd)
    have HB := Lib.hid (box_at h)
    have HB' := Lib.hid (box_at (h'.keep (below_new w (.cells #[.string kind, .string text, .int .i64 num, .slice a n cap] 24))))
    have HK := Lib.hid hk
    have HK' := Lib.hid hk'
    have hm2 : n ≤ 9223372036854775807 := by unfold maxLen at hm; omega
    clear ih hd h h' hk hk' hz1 hz2 hz1' hz2' hm hm'
    go_enter Tryz.func23, Tryz.ntmps23
    go_wp2_with fail
    have HBs := Lib.hid (HB.out.keep (below_new _ (.cells #[.string kind', .string text', .int .i64 num, .slice a' n cap'] 24)))
    have hlt0 : w.heap.size + 1 < ((w.alloc (.cells #[.string kind, .string text, .int .i64 num, .slice a n cap] 24)).alloc (.cells #[.string kind', .string text', .int .i64 num, .slice a' n cap'] 24)).heap.size := by simp
    generalize (w.alloc (.cells #[.string kind, .string text, .int .i64 num, .slice a n cap] 24)).alloc (.cells #[.string kind', .string text', .int .i64 num, .slice a' n cap'] 24) = w0 at *
    have HB2 := Lib.hid (show KidAt w0 (w.heap.size + 1) 0 (.mk kind' text' num kids') kind' text' num a' n cap' by have := HB'.out; simpa using this)
    clear HB'
    go_loopw [37] (fun i wr => ∃ (k : Nat), k ≤ n ∧ i = .int .i64 k ∧ Below w0.heap.size w0 wr) (fun i _ => n - (intOf i).toNat)
    case atStart => exact ⟨0, Nat.zero_le _, rfl, Below.refl _ _⟩
    case round =>
      obtain ⟨k, hk, rfl, hbw⟩ := hrel
      by_cases hlt : k < n
      · have hlt2 : (k : Int) < (n : Int) := by omega
        have hlk : k < kids.length := by rw [← HN.out]; exact hlt
        have hlk' : k < kids'.length := by rw [← HN'.out]; exact hlt
        obtain ⟨b, off, kd, tx, nm, a1, n1, cap1, rfl, hx⟩ := ((HK.out.keep HW0.out).keep hbw).nth k hlk
        obtain ⟨b', off', kd', tx', nm', a1', n1', cap1', rfl, hx'⟩ := ((HK'.out.keep HW0.out).keep hbw).nth k hlk'
        have HD1 := Lib.hid (HD.out _ (getD_mem hlk))
        obtain ⟨g0, g1, g2, g3⟩ := hx.cells
        obtain ⟨g0', g1', g2', g3'⟩ := hx'.cells
        obtain ⟨x0, x1, x2, x3⟩ := (HBs.out.keep hbw).box
        obtain ⟨y0, y1, y2, y3⟩ := (HB2.out.keep hbw).box
        have HC := Lib.hid (fun w2 hb => IH.out _ _ kd tx kd' tx' nm nm' a1 a1' n1 cap1 n1' cap1' w2 (hx.nv.keep hb) (hx'.nv.keep hb) HD1.out)
        have HBW := Lib.hid hbw
        clear hx hx' hbw hlk hlk'
        go_wp2_with fail
        go_still_tail 10, (by kernel_rfl)
        change wpList _ _ _ _ _ wr.drew
        go_wp2_with fail
        refine (HC.out _ (Below.refl _ _).drew).mono ?_
        rintro e w2 ⟨bb, rfl, _, hb2⟩
        have HB3 := Lib.hid (HBW.out.trans (Below.drew (Below.refl _ wr) |>.trans hb2 |>.mono HBW.out.size))
        clear hb2
        cases bb with
        | false =>
          go_wp2_with fail
          go_ret
          exact .no (behind HW0.out HB3.out)
        | true =>
          go_wp2_with fail
          go_roundw
          case rel => exact ⟨k + 1, by omega, by go_num, HB3.out⟩
          case measure => simp [intOf]; omega
      · go_wp2_with fail
        go_ret
        exact .yes ⟨HQ1.out, rfl⟩ (behind HW0.out hbw)

end Go.Proofs.YtdlhhdhooacogaaGreatDoor

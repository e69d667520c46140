/-
  Lists of texts with another text in the places of one; whether two lists are the same; the text of a Name; CopyTemplate.
-/
import Derived.Test.YtfpojbcmhnaojaaCU
namespace Go.Proofs.Ytfpojbcmhnaojaa
open Go.RowKit

theorem Strs.ofOwn {w : World} {B n : Nat} {v : Value} {ss : List ByteArray} (h : w.ownsRow B 9 1 v n (ss.map Value.string)) : ∃ a cap, v = .slice a n cap ∧ Strs w a n ss ∧ (a = none → cap = 0) := by
  have hl : ss.length = n := by simpa using h.1
  rcases h.2 with ⟨rfl, rfl⟩ | ⟨g, cap, cur, rfl, hb, hg, r⟩
  · exact ⟨none, 0, rfl, ⟨hl, fun h => by omega⟩, fun _ => rfl⟩
  · refine ⟨_, _, rfl, ⟨hl, fun hn => ⟨g, 0, rfl, lt_of_block hg, fun i hi => ?_⟩⟩, fun e => by simp at e⟩
    rw [Nat.zero_add, h.cellAt i (by omega)]
    simp [hl, hi]

/-- A list of texts as what an append appends. -/
theorem Strs.src {w : World} {a : Option Addr} {n cap : Nat} {ss : List ByteArray} (h : Strs w a n ss) (hn : a = none → cap = 0) : Src Try.prog 1 22 (.slice a n cap) n (ss.map Value.string) w := by
  cases a with
  | none =>
    have h0 : n = 0 := by
      rcases Nat.eq_zero_or_pos n with h0 | h0
      · exact h0
      · obtain ⟨_, _, e, _⟩ := h.cells h0
        simp at e
    subst h0
    have : ss = [] := List.eq_nil_of_length_eq_zero h.len
    subst this
    exact Src.ofNil w Try.underlying22 cap
  | some ad =>
    refine Src.ofSlice w Try.underlying22 ad n cap _ (by simp [h.len]) (fun j u hu => ?_) (fun u hu => by obtain ⟨_, _, rfl⟩ := List.mem_map.1 hu; rfl)
    have hj : j < n := by have := (List.getElem?_eq_some_iff.1 hu).1; simpa [h.len] using this
    obtain ⟨bl, off, e, _, hc⟩ := h.cells (by omega)
    simp at e
    subst e
    rw [Addr.add_lit, hc j hj]
    have : j < ss.length := by rw [h.len]; exact hj
    simpa [List.getD, this] using hu

set_option maxHeartbeats 400000 in
theorem text_name (b B : Nat) (s : ByteArray) (w : World) (h : IsName w B s (.iface 44 (.pointer (some ⟨b, 0, none⟩)))) :
    Calls Try.prog 13 #[.iface 44 (.pointer (some ⟨b, 0, none⟩))] w fun e w' => e = .returned (.string s) ∧ w = w' := by
  obtain ⟨b', e, _, hb⟩ := h
  have e' : b = b' := by simpa using e
  subst e'
  clear e
  have hc : w.cell? ⟨b, 0, none⟩ = some (.string s) := cell_of_one hb
  have t1 := taNN
  go_enter Try.func13, Try.ntmps13
  go_wp2_with fail
  go_ret
  exact ⟨rfl, rfl⟩

set_option maxHeartbeats 400000 in
theorem renaming_any (s t : ByteArray) (w : World) :
    Calls Try.prog 11 #[.string s, .string t] w fun e w' => e = .returned (.func (.func 14) #[] #[.pointer (some ⟨w.heap.size, 0, none⟩), .pointer (some ⟨w.heap.size + 1, 0, none⟩)]) ∧
      (w.alloc (.cells #[.string s] 9)).alloc (.cells #[.string t] 9) = w' := by
  go_enter Try.func11, Try.ntmps11
  go_wp2_with fail
  go_ret
  exact ⟨rfl, rfl⟩

/-- The texts with the other one in the places of the one sought, as values. -/
def renList (frm to : ByteArray) (ss : List ByteArray) : List Value := (ss.map (ren frm to)).map Value.string

/-- What smRenamed hands back. -/
def RenMade (frm to : ByteArray) (ss : List ByteArray) (w : World) (e : Ending) (w' : World) : Prop :=
  ∃ v, e = .returned (.tuple #[v, .bool (hitB frm ss)]) ∧ w'.ownsRow w.heap.size 9 1 v ss.length (renList frm to ss) ∧ Below w.heap.size w w'

set_option maxHeartbeats 2000000 in
theorem renamed_any (a : Option Addr) (n cap : Nat) (ss : List ByteArray) (frm to : ByteArray) (w : World) (h : Strs w a n ss) (hn : n ≤ 2000) :
    Calls Try.prog 5 #[.slice a n cap, .string frm, .string to] w (RenMade frm to ss w) := by
  obtain ⟨i0, hi, hz0, hz1, hz2⟩ := info_parts Try.infoStr
  have HS := Lib.hid h
  clear h
  go_enter Try.func5, Try.ntmps5
  go_wp2_with fail
  go_loopw [8, 9, 14] (fun v c i wr => ∃ k : Nat, k ≤ n ∧ i = .int .i64 k ∧ ∃ cb, c = .bool cb ∧ Hid (cb = hitB frm (ss.take k)) ∧ wr.ownsRow w.heap.size 9 1 v k (renList frm to (ss.take k)) ∧ Below w.heap.size w wr) (fun _ _ i _ => n - (intOf i).toNat)
  case atStart => exact ⟨0, Nat.zero_le _, rfl, false, rfl, rfl, World.ownsRow_nil _ _ _ _, Below.refl _ _⟩
  case round =>
    obtain ⟨k, hk, rfl, cb, rfl, hcb, hown, hbel⟩ := hrel
    by_cases hlt : k < n
    · obtain ⟨bl, off, rfl, hbl, hc⟩ := HS.out.cells (by omega)
      have hl : k < ss.length := by rw [HS.out.len]; exact hlt
      have hc1 : wr.cell? ⟨bl, off + k, none⟩ = some (.string (ss.getD k ⟨#[]⟩)) := by rw [hbel.cell (p := ⟨bl, off + k, none⟩) hbl]; exact hc k hlt
      have ht : ss.take (k + 1) = ss.take k ++ [ss.getD k ⟨#[]⟩] := by
        rw [List.take_succ_eq_append_getElem hl]
        simp [List.getD, hl]
      have hsz := hbel.size
      have hh := hit_take frm ss k hl
      have HT := Lib.hid ht
      have HH := Lib.hid hh
      have hbase : w.heap.size ≤ (wr.alloc (Obj.cells #[Value.string to] 9)).heap.size := by simp; omega
      clear hc ht hh hl
      generalize ss.getD k ⟨#[]⟩ = s at *
      by_cases hs : s = frm
      · have q := str_same hs
        have QS := Lib.hid hs
        clear hs
        go_wp2_with (at_builtin; refine wpList_append_own _ rfl _ _ 22 rfl w.heap.size 9 i0 (.string ⟨#[]⟩) 1 16 Try.underlying22 hi hz0 hz1 hz2 rfl (by decide) _ _ _ rfl (hown.alloc _) ⟨wr.heap.size, 0, none⟩ 1 1 [.string to] rfl rfl (cell_one_new _ _ _) (by simp [Value.oneCell']) ?c3 (by omega) (by simp; omega) ?_)
        case c3 => unfold maxLen; omega
        intro v1 w1 hown1 hg1 _
        have hb1 := (hbel.alloc hsz _).grown hg1 (by simp; omega) (fun j hj => (hown.lt j hj).1)
        have fin : wr.heap.size = wr.heap.size ∧ true = hitB frm (ss.take (k + 1)) ∧ w1.ownsRow w.heap.size 9 1 v1 (k + 1) (renList frm to (ss.take (k + 1))) := by
          refine ⟨rfl, by rw [HH.out, decide_eq_true QS.out, Bool.or_true], ?_⟩
          unfold renList
          rw [HT.out, List.map_append, List.map_append, List.map_singleton, List.map_singleton, show ren frm to s = to from if_pos QS.out]
          exact hown1
        have FIN := Lib.hid fin
        clear fin hown hown1 hg1 hbel hc1
        go_wp2_with fail
        go_roundw
        case rel => exact ⟨k + 1, by omega, by go_num, true, rfl, FIN.out.2.1, FIN.out.2.2, hb1⟩
        case measure => simp [intOf]; omega
      · have q := str_ne hs
        have QS := Lib.hid hs
        clear hs
        go_wp2_with (at_builtin; refine wpList_append_own _ rfl _ _ 22 rfl w.heap.size 9 i0 (.string ⟨#[]⟩) 1 16 Try.underlying22 hi hz0 hz1 hz2 rfl (by decide) _ _ _ rfl (hown.alloc _) ⟨wr.heap.size, 0, none⟩ 1 1 [.string s] rfl rfl (cell_one_new _ _ _) (by simp [Value.oneCell']) ?c3 (by omega) (by simp; omega) ?_)
        case c3 => unfold maxLen; omega
        intro v1 w1 hown1 hg1 _
        have hb1 := (hbel.alloc hsz _).grown hg1 (by simp; omega) (fun j hj => (hown.lt j hj).1)
        have fin : wr.heap.size = wr.heap.size ∧ cb = hitB frm (ss.take (k + 1)) ∧ w1.ownsRow w.heap.size 9 1 v1 (k + 1) (renList frm to (ss.take (k + 1))) := by
          refine ⟨rfl, by rw [HH.out, decide_eq_false QS.out, Bool.or_false]; exact hcb.out, ?_⟩
          unfold renList
          rw [HT.out, List.map_append, List.map_append, List.map_singleton, List.map_singleton, show ren frm to s = s from if_neg QS.out]
          exact hown1
        have FIN := Lib.hid fin
        clear fin hown hown1 hg1 hbel hc1
        go_wp2_with fail
        go_roundw
        case rel => exact ⟨k + 1, by omega, by go_num, cb, rfl, FIN.out.2.1, FIN.out.2.2, hb1⟩
        case measure => simp [intOf]; omega
    · have e : ss.take k = ss := List.take_of_length_le (by rw [HS.out.len]; omega)
      have ek : k = ss.length := by rw [HS.out.len]; omega
      rw [e] at hown hcb
      rw [ek] at hown
      clear e ek
      go_wp2_with fail
      go_ret2
      exact ⟨_, by rw [← hcb.out]; rfl, hown, hbel⟩

end Go.Proofs.Ytfpojbcmhnaojaa

/-
  isQualifiers: where true, nothing stands below the words.
-/
import Derived.Test.YtdlhhdhooacogaaGreatDoorWH
import Derived.Deep.QuietTactic
import Derived.BigQuiet
import Derived.WalkSmall
import Derived.WalkLawsBesides
import Derived.WalkSpells
namespace Go.Proofs.YtdlhhdhooacogaaGreatDoor
open Go.RowKit

theorem Tryz.infoStr : (Tryz.prog.info? 9).map (fun i => (i.zero, i.size, i.bytes)) = some (some (.string ⟨#[]⟩), 1, 16) := by kernel_rfl

set_option maxRecDepth 100000 in
set_option maxHeartbeats 4000000 in
theorem isQualifiers_yes (t : NT) (kind text : ByteArray) (num : Int) (a : Option Addr) (n cap : Nat) (w : World) (h : NV w [.string kind, .string text, .int .i64 num, .slice a n cap] t) :
    Calls Tryz.prog 39 #[.agg #[.string kind, .string text, .int .i64 num, .slice a n cap], .bool true] w (SaysIf (Quals t) w) := by
  obtain ⟨kids, rfl, hz1, hz2, hn, hm, hk⟩ := h.kids
  have HH := Lib.hid h
  have HK := Lib.hid hk
  have HN := Lib.hid hn
  have hm2 : n ≤ 9223372036854775807 := by unfold maxLen at hm; omega
  clear h hk hn hz1 hz2 hm
  rcases bt (kind.toList == [81, 117, 97, 108, 105, 102, 105, 101, 114, 115]) with q1 | q1
  rotate_left
  · go_enter Tryz.func39, Tryz.ntmps39
    go_wp2_with fail
    go_ret
    exact .no (below_new _ _)
  rcases bt (text.toList.isEmpty) with q2 | q2
  rotate_left
  · go_enter Tryz.func39, Tryz.ntmps39
    go_wp2_with fail
    go_ret
    exact .no (below_new _ _)
  by_cases hnum : num = 0
  rotate_left
  · have q3 : (num == 0) = false := by simpa using hnum
    clear hnum
    go_enter Tryz.func39, Tryz.ntmps39
    go_wp2_with fail
    go_ret
    exact .no (below_new _ _)
  subst hnum
  by_cases hnn : n = 0
  · subst hnn
    go_enter Tryz.func39, Tryz.ntmps39
    go_wp2_with fail
    go_ret
    exact .no (below_new _ _)
  have q4 : ((n : Int) == 0) = false := by simp; omega
  obtain ⟨i0, hi, hz0, hz1, hz2⟩ := info_parts Tryz.infoStr
  have HX := Lib.hid (box_at HH.out)
  clear HH
  have hown : ((w.alloc (.cells #[.string kind, .string text, .int .i64 0, .slice a n cap] 24)).alloc (.cells #[.string ⟨#[99, 111, 110, 115, 116]⟩, .string ⟨#[118, 111, 108, 97, 116, 105, 108, 101]⟩] 9)).ownsRow w.heap.size 9 1 (.slice (some ⟨w.heap.size + 1, 0, none⟩) 2 2) 2 [.string ⟨#[99, 111, 110, 115, 116]⟩, .string ⟨#[118, 111, 108, 97, 116, 105, 108, 101]⟩] := by
    have := World.ownsRow_lit (base := w.heap.size) (e := 9) (size := 1) (w.alloc (.cells #[.string kind, .string text, .int .i64 0, .slice a n cap] 24)) #[.string ⟨#[99, 111, 110, 115, 116]⟩, .string ⟨#[118, 111, 108, 97, 116, 105, 108, 101]⟩] 2 (by simp) (by decide) rfl
    simpa using this
  have hbyt : (2 + 1) * 16 ≤ 140737488355328 := by decide
  go_enter Tryz.func39, Tryz.ntmps39
  go_wp2_with (at_builtin; refine wpList_append_own _ rfl _ _ 27 rfl w.heap.size 9 i0 (.string ⟨#[]⟩) 1 16 Tryz.underlying27 hi hz0 hz1 hz2 rfl (by decide) _ _ _ rfl (hown.alloc _) ⟨w.heap.size + 2, 0, none⟩ 1 1 [.string ⟨#[114, 101, 115, 116, 114, 105, 99, 116]⟩] rfl rfl ?c1 (by simp [Value.oneCell']) ?c3 hbyt (by simp; omega) ?_)
  case c1 =>
    have := cell_one_new ((w.alloc (.cells #[.string kind, .string text, .int .i64 0, .slice a n cap] 24)).alloc (.cells #[.string ⟨#[99, 111, 110, 115, 116]⟩, .string ⟨#[118, 111, 108, 97, 116, 105, 108, 101]⟩] 9)) (.string ⟨#[114, 101, 115, 116, 114, 105, 99, 116]⟩) 9
    simpa using this
  case c3 => decide
  intro v1 w0 h5 h6 _
  have hw0 : Below w.heap.size w w0 := (behind (behind (below_new _ _) (below_new _ _)) (below_new _ _)).grown h6 (by simp; omega) (by intro k hk; simp [Value.ownBlock] at hk; omega)
  obtain ⟨g, cap1, rfl⟩ : ∃ g cap1, v1 = .slice (some ⟨g, 0, none⟩) 3 cap1 := by
    rcases h5.2 with ⟨_, e⟩ | ⟨g, cap1, cur, e, _⟩
    · simp at e
    · exact ⟨g, cap1, e⟩
  have hG : g < w0.heap.size := (h5.lt g rfl).2
  have hs : ∀ i, i < 3 → ∃ s, w0.cell? ⟨g, i, none⟩ = some (.string s) := by
    intro i hi
    rw [h5.cellAt i (by omega)]
    match i, hi with
    | 0, _ => exact ⟨_, rfl⟩
    | 1, _ => exact ⟨_, rfl⟩
    | 2, _ => exact ⟨_, rfl⟩
  have HS := Lib.hid hs
  have HW0 := Lib.hid hw0
  have xb3 : w0.cell? ⟨w.heap.size, 3, none⟩ = some (.slice a n cap) := by
    refine h6.cell ?_ (by simp [Value.ownBlock])
    have e := ((HX.out.keep (below_new _ (.cells #[.string ⟨#[99, 111, 110, 115, 116]⟩, .string ⟨#[118, 111, 108, 97, 116, 105, 108, 101]⟩] 9))).keep (below_new _ (.cells #[.string ⟨#[114, 101, 115, 116, 114, 105, 99, 116]⟩] 9))).c3
    exact e
  clear hs hw0 h5 h6 hown hbyt hi hz0 hz1 hz2 i0
  go_wp2_with fail
  go_loopw [36, 6] (fun i j wr => ∃ (k l : Nat), k ≤ n ∧ i = .int .i64 k ∧ l ≤ 3 ∧ j = .int .i64 l ∧ Below w0.heap.size w0 wr ∧ ∀ x, x < k → (kids.getD x default).kind = ⟨#[81, 117, 97, 108, 105, 102, 105, 101, 114]⟩ ∧ (kids.getD x default).kids = []) (fun i _ _ => n - (intOf i).toNat)
  case atStart => exact ⟨0, 0, Nat.zero_le _, rfl, Nat.zero_le _, rfl, Below.refl _ _, fun x hx => by omega⟩
  case round =>
    obtain ⟨k, l, hk, rfl, hl, rfl, hbw, hdone⟩ := hrel
    have HDN := Lib.hid hdone
    clear hdone
    by_cases hlt : k < n
    · have hlt2 : (k : Int) < (n : Int) := by omega
      have hlk : k < kids.length := by rw [← HN.out]; exact hlt
      obtain ⟨b, off, kd, tx, nm, a1, n1, cap1, rfl, hx⟩ := ((HK.out.keep HW0.out).keep hbw).nth k hlk
      obtain ⟨g0, g1, g2, g3⟩ := hx.cells
      have HX := Lib.hid (box_at hx.nv)
      have HNV := Lib.hid hx.nv
      have HBW := Lib.hid (behind hbw (below_new wr (.cells #[.string kd, .string tx, .int .i64 nm, .slice a1 n1 cap1] 24)))
      have hbn : wr.heap.size < (wr.alloc (.cells #[.string kd, .string tx, .int .i64 nm, .slice a1 n1 cap1] 24)).heap.size := by simp
      clear hx hbw hlk
      go_wp2_with fail
      generalize wr.heap.size = B at *
      generalize (wr.alloc (.cells #[.string kd, .string tx, .int .i64 nm, .slice a1 n1 cap1] 24)) = w1 at *
      go_loopw [6] (fun j wr' => ∃ (l : Nat), l ≤ 3 ∧ j = .int .i64 l ∧ Below w1.heap.size w1 wr') (fun j _ => 3 - (intOf j).toNat)
      case atStart => exact ⟨l, hl, rfl, Below.refl _ _⟩
      case round =>
        obtain ⟨l, hl, rfl, hbv⟩ := hrel
        obtain ⟨x0, x1, x2, x3⟩ := (HX.out.keep hbv).box
        by_cases hll : l < 3
        · have hll2 : (l : Int) < (3 : Int) := by omega
          obtain ⟨s, hs⟩ := HS.out l hll
          have y0 : wr.cell? ⟨g, l, none⟩ = some (.string s) := by rw [(HBW.out.trans (hbv.mono HBW.out.size)).cell (p := ⟨g, l, none⟩) hG]; exact hs
          have hB : ∀ nq, Below w.heap.size w (wr.drewN nq) := fun nq => behind (behind HW0.out HBW.out) (behind hbv (below_drewN (Below.refl _ _) nq))
          have HBB := Lib.hid hB
          have HB0 := Lib.hid (fun nq => behind HBW.out (behind hbv (below_drewN (Below.refl _ wr) nq)))
          clear hB
          rcases bt (s.toList == tx.toList) with qs | qs
          · have qm : ((l : Int) == (3 : Int)) = false := by simp; omega
            rcases bt (kd.toList == [81, 117, 97, 108, 105, 102, 105, 101, 114]) with qk | qk
            rotate_left
            · go_wp2_with fail
              go_quiet (fail)
              go_wp2_with fail
              go_ret
              exact .no (HBB.out _)
            by_cases hnm : nm = 0
            rotate_left
            · have q3 : (nm == 0) = false := by simpa using hnm
              go_wp2_with fail
              go_quiet (fail)
              go_wp2_with fail
              go_ret
              exact .no (HBB.out _)
            subst hnm
            by_cases hn1 : n1 = 0
            rotate_left
            · have q3 : ((n1 : Int) == 0) = false := by simp; omega
              go_wp2_with fail
              go_quiet (fail)
              go_wp2_with fail
              go_ret
              exact .no (HBB.out _)
            subst hn1
            have HDN2 := Lib.hid (show ∀ x, x < k + 1 → (kids.getD x default).kind = ⟨#[81, 117, 97, 108, 105, 102, 105, 101, 114]⟩ ∧ (kids.getD x default).kids = [] by
              intro x hx
              by_cases hxk : x < k
              · exact HDN.out x hxk
              · obtain rfl : x = k := by omega
                obtain ⟨ks, e, _, _, e0, _, _⟩ := HNV.out.kids
                rw [e]
                exact ⟨eq_list qk, nil_of e0 rfl⟩)
            go_wp2_with fail
            go_quiet (fail)
            go_wp2_with fail
            go_roundw
            case rel => exact ⟨k + 1, l + 1, by omega, by go_num, by omega, by go_num, HB0.out _, HDN2.out⟩
            case measure => simp [intOf]; omega
          · go_wp2_with fail
            go_quiet (fail)
            go_wp2_with fail
            go_roundw
            case rel => exact ⟨l + 1, by omega, by go_num, below_drewN hbv _⟩
            case measure => simp [intOf]; omega
        · have hd : decide ((l : Int) < (3 : Int)) = false := by simp; omega
          obtain rfl : l = 3 := by omega
          have hB : ∀ nq, Below w.heap.size w (wr.drewN nq) := fun nq => behind (behind HW0.out HBW.out) (behind hbv (below_drewN (Below.refl _ _) nq))
          have HBB := Lib.hid hB
          clear hB
          go_wp2_with fail
          go_quiet (fail)
          go_wp2_with fail
          go_ret
          exact .no (HBB.out _)
    · obtain rfl : k = n := by omega
      go_wp2_with fail
      go_ret
      refine .yes (.inr ⟨eq_list q1, fun k hk => ?_⟩) (behind HW0.out hbw)
      have hk' : k ∈ kids := hk
      obtain ⟨x, hx, e⟩ := List.getElem_of_mem hk'
      have := HDN.out x (by rw [HN.out]; exact hx)
      have e2 : kids.getD x default = kids[x] := by simp [List.getD, hx]
      rw [e2, e] at this
      exact this


set_option maxRecDepth 100000 in
set_option maxHeartbeats 4000000 in
theorem isQualifiers_no (t : NT) (kind text : ByteArray) (num : Int) (a : Option Addr) (n cap : Nat) (w : World) (h : NV w [.string kind, .string text, .int .i64 num, .slice a n cap] t) :
    Calls Tryz.prog 39 #[.agg #[.string kind, .string text, .int .i64 num, .slice a n cap], .bool false] w (SaysIf (Quals t) w) := by
  obtain ⟨kids, rfl, hz1, hz2, hn, hm, hk⟩ := h.kids
  have HK := Lib.hid hk
  have HN := Lib.hid hn
  have hm2 : n ≤ 9223372036854775807 := by unfold maxLen at hm; omega
  clear h hk hn hz1 hz2 hm
  rcases bt (kind.toList == [81, 117, 97, 108, 105, 102, 105, 101, 114, 115]) with q1 | q1
  rotate_left
  · go_enter Tryz.func39, Tryz.ntmps39
    go_wp2_with fail
    go_ret
    exact .no (below_new _ _)
  rcases bt (text.toList.isEmpty) with q2 | q2
  rotate_left
  · go_enter Tryz.func39, Tryz.ntmps39
    go_wp2_with fail
    go_ret
    exact .no (below_new _ _)
  by_cases hnum : num = 0
  rotate_left
  · have q3 : (num == 0) = false := by simpa using hnum
    clear hnum
    go_enter Tryz.func39, Tryz.ntmps39
    go_wp2_with fail
    go_ret
    exact .no (below_new _ _)
  subst hnum
  by_cases hnn : n = 0
  · subst hnn
    go_enter Tryz.func39, Tryz.ntmps39
    go_wp2_with fail
    go_ret
    exact .no (below_new _ _)
  have q4 : ((n : Int) == 0) = false := by simp; omega
  go_enter Tryz.func39, Tryz.ntmps39
  go_wp2_with fail
  have hs : ∀ i, i < 2 → ∃ s, ((w.alloc (.cells #[.string kind, .string text, .int .i64 0, .slice a n cap] 24)).alloc (.cells #[.string ⟨#[99, 111, 110, 115, 116]⟩, .string ⟨#[118, 111, 108, 97, 116, 105, 108, 101]⟩] 9)).cell? ⟨w.heap.size + 1, i, none⟩ = some (.string s) := by
    intro i hi
    have e : w.heap.size + 1 = (w.alloc (.cells #[.string kind, .string text, .int .i64 0, .slice a n cap] 24)).heap.size := by simp
    unfold World.cell?
    rw [e, heap_alloc_new]
    match i, hi with
    | 0, _ => exact ⟨_, rfl⟩
    | 1, _ => exact ⟨_, rfl⟩
  have hw0 : Below w.heap.size w ((w.alloc (.cells #[.string kind, .string text, .int .i64 0, .slice a n cap] 24)).alloc (.cells #[.string ⟨#[99, 111, 110, 115, 116]⟩, .string ⟨#[118, 111, 108, 97, 116, 105, 108, 101]⟩] 9)) := behind (below_new _ _) (below_new _ _)
  have hG : w.heap.size + 1 < ((w.alloc (.cells #[.string kind, .string text, .int .i64 0, .slice a n cap] 24)).alloc (.cells #[.string ⟨#[99, 111, 110, 115, 116]⟩, .string ⟨#[118, 111, 108, 97, 116, 105, 108, 101]⟩] 9)).heap.size := by simp
  generalize ((w.alloc (.cells #[.string kind, .string text, .int .i64 0, .slice a n cap] 24)).alloc (.cells #[.string ⟨#[99, 111, 110, 115, 116]⟩, .string ⟨#[118, 111, 108, 97, 116, 105, 108, 101]⟩] 9)) = w0 at *
  have HS := Lib.hid hs
  have HW0 := Lib.hid hw0
  clear hs hw0
  go_loopw [36, 6] (fun i j wr => ∃ (k l : Nat), k ≤ n ∧ i = .int .i64 k ∧ l ≤ 2 ∧ j = .int .i64 l ∧ Below w0.heap.size w0 wr ∧ ∀ x, x < k → (kids.getD x default).kind = ⟨#[81, 117, 97, 108, 105, 102, 105, 101, 114]⟩ ∧ (kids.getD x default).kids = []) (fun i _ _ => n - (intOf i).toNat)
  case atStart => exact ⟨0, 0, Nat.zero_le _, rfl, Nat.zero_le _, rfl, Below.refl _ _, fun x hx => by omega⟩
  case round =>
    obtain ⟨k, l, hk, rfl, hl, rfl, hbw, hdone⟩ := hrel
    have HDN := Lib.hid hdone
    clear hdone
    by_cases hlt : k < n
    · have hlt2 : (k : Int) < (n : Int) := by omega
      have hlk : k < kids.length := by rw [← HN.out]; exact hlt
      obtain ⟨b, off, kd, tx, nm, a1, n1, cap1, rfl, hx⟩ := ((HK.out.keep HW0.out).keep hbw).nth k hlk
      obtain ⟨g0, g1, g2, g3⟩ := hx.cells
      have HX := Lib.hid (box_at hx.nv)
      have HNV := Lib.hid hx.nv
      have HBW := Lib.hid (behind hbw (below_new wr (.cells #[.string kd, .string tx, .int .i64 nm, .slice a1 n1 cap1] 24)))
      have hbn : wr.heap.size < (wr.alloc (.cells #[.string kd, .string tx, .int .i64 nm, .slice a1 n1 cap1] 24)).heap.size := by simp
      clear hx hbw hlk
      go_wp2_with fail
      generalize wr.heap.size = B at *
      generalize (wr.alloc (.cells #[.string kd, .string tx, .int .i64 nm, .slice a1 n1 cap1] 24)) = w1 at *
      go_loopw [6] (fun j wr' => ∃ (l : Nat), l ≤ 2 ∧ j = .int .i64 l ∧ Below w1.heap.size w1 wr') (fun j _ => 2 - (intOf j).toNat)
      case atStart => exact ⟨l, hl, rfl, Below.refl _ _⟩
      case round =>
        obtain ⟨l, hl, rfl, hbv⟩ := hrel
        obtain ⟨x0, x1, x2, x3⟩ := (HX.out.keep hbv).box
        by_cases hll : l < 2
        · have hll2 : (l : Int) < (2 : Int) := by omega
          obtain ⟨s, hs⟩ := HS.out l hll
          have y0 : wr.cell? ⟨w.heap.size + 1, l, none⟩ = some (.string s) := by rw [(HBW.out.trans (hbv.mono HBW.out.size)).cell (p := ⟨w.heap.size + 1, l, none⟩) hG]; exact hs
          have hB : ∀ nq, Below w.heap.size w (wr.drewN nq) := fun nq => behind (behind HW0.out HBW.out) (behind hbv (below_drewN (Below.refl _ _) nq))
          have HBB := Lib.hid hB
          have HB0 := Lib.hid (fun nq => behind HBW.out (behind hbv (below_drewN (Below.refl _ wr) nq)))
          clear hB
          rcases bt (s.toList == tx.toList) with qs | qs
          · have qm : ((l : Int) == (2 : Int)) = false := by simp; omega
            rcases bt (kd.toList == [81, 117, 97, 108, 105, 102, 105, 101, 114]) with qk | qk
            rotate_left
            · go_wp2_with fail
              go_quiet (fail)
              go_wp2_with fail
              go_ret
              exact .no (HBB.out _)
            by_cases hnm : nm = 0
            rotate_left
            · have q3 : (nm == 0) = false := by simpa using hnm
              go_wp2_with fail
              go_quiet (fail)
              go_wp2_with fail
              go_ret
              exact .no (HBB.out _)
            subst hnm
            by_cases hn1 : n1 = 0
            rotate_left
            · have q3 : ((n1 : Int) == 0) = false := by simp; omega
              go_wp2_with fail
              go_quiet (fail)
              go_wp2_with fail
              go_ret
              exact .no (HBB.out _)
            subst hn1
            have HDN2 := Lib.hid (show ∀ x, x < k + 1 → (kids.getD x default).kind = ⟨#[81, 117, 97, 108, 105, 102, 105, 101, 114]⟩ ∧ (kids.getD x default).kids = [] by
              intro x hx
              by_cases hxk : x < k
              · exact HDN.out x hxk
              · obtain rfl : x = k := by omega
                obtain ⟨ks, e, _, _, e0, _, _⟩ := HNV.out.kids
                rw [e]
                exact ⟨eq_list qk, nil_of e0 rfl⟩)
            go_wp2_with fail
            go_quiet (fail)
            go_wp2_with fail
            go_roundw
            case rel => exact ⟨k + 1, l + 1, by omega, by go_num, by omega, by go_num, HB0.out _, HDN2.out⟩
            case measure => simp [intOf]; omega
          · go_wp2_with fail
            go_quiet (fail)
            go_wp2_with fail
            go_roundw
            case rel => exact ⟨l + 1, by omega, by go_num, below_drewN hbv _⟩
            case measure => simp [intOf]; omega
        · have hd : decide ((l : Int) < (2 : Int)) = false := by simp; omega
          obtain rfl : l = 2 := by omega
          have hB : ∀ nq, Below w.heap.size w (wr.drewN nq) := fun nq => behind (behind HW0.out HBW.out) (behind hbv (below_drewN (Below.refl _ _) nq))
          have HBB := Lib.hid hB
          clear hB
          go_wp2_with fail
          go_quiet (fail)
          go_wp2_with fail
          go_ret
          exact .no (HBB.out _)
    · obtain rfl : k = n := by omega
      go_wp2_with fail
      go_ret
      refine .yes (.inr ⟨eq_list q1, fun k hk => ?_⟩) (behind HW0.out hbw)
      have hk' : k ∈ kids := hk
      obtain ⟨x, hx, e⟩ := List.getElem_of_mem hk'
      have := HDN.out x (by rw [HN.out]; exact hx)
      have e2 : kids.getD x default = kids[x] := by simp [List.getD, hx]
      rw [e2, e] at this
      exact this

end Go.Proofs.YtdlhhdhooacogaaGreatDoor

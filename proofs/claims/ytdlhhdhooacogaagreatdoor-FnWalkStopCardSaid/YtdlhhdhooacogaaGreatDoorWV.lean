/-
  last, tail: a node of the tree.
-/
import Derived.Test.YtdlhhdhooacogaaGreatDoorWU
import Derived.Deep.LoopGhost
namespace Go.Proofs.YtdlhhdhooacogaaGreatDoor
open Go.RowKit

/-- It hands back a node of a tree that Traverse can go round; what was there stands. -/
def SaysNode (d : Nat) (w : World) (e : Ending) (w' : World) : Prop := ∃ t kd tx nm a n cap, e = .returned (.agg #[.string kd, .string tx, .int .i64 nm, .slice a n cap]) ∧ Dep d t ∧ Good t ∧ NV w [.string kd, .string tx, .int .i64 nm, .slice a n cap] t ∧ Below w.heap.size w w'

theorem Dep.up {d e : Nat} {t : NT} (h : Dep d t) (hle : d ≤ e) : Dep e t := by
  induction e with
  | zero => have : d = 0 := by omega
            subst this; exact h
  | succ e ih =>
    by_cases hd : d = e + 1
    · subst hd; exact h
    · exact (ih (by omega)).mono

set_option maxRecDepth 100000 in
set_option maxHeartbeats 8000000 in
theorem last_any (d : Nat) (t : NT) (kind text : ByteArray) (num : Int) (a : Option Addr) (n cap : Nat) (w : World) (h : NV w [.string kind, .string text, .int .i64 num, .slice a n cap] t) (hd : Dep d t) (hgood : Good t) :
    Calls Tryz.prog 43 #[.agg #[.string kind, .string text, .int .i64 num, .slice a n cap]] w (SaysNode d w) := by
  have HG := Lib.hid hgood
  have HNV := Lib.hid h
  have HDD := Lib.hid hd
  have HW0 := Lib.hid (behind (below_new w (.cells #[.string kind, .string text, .int .i64 num, .slice a n cap] 24)) (below_new _ (.cells #[.string ⟨#[]⟩, .string ⟨#[]⟩, .int .i64 0, .slice none 0 0] 24)))
  have HS0 := Lib.hid (show ((w.alloc (.cells #[.string kind, .string text, .int .i64 num, .slice a n cap] 24)).alloc (.cells #[.string ⟨#[]⟩, .string ⟨#[]⟩, .int .i64 0, .slice none 0 0] 24)).heap[w.heap.size]? = some (.cells #[.string kind, .string text, .int .i64 num, .slice a n cap] 24 (0, 0)) by rw [Below.heap_alloc _ _ _ (by simp), heap_alloc_new])
  have HS1 := Lib.hid (show ((w.alloc (.cells #[.string kind, .string text, .int .i64 num, .slice a n cap] 24)).alloc (.cells #[.string ⟨#[]⟩, .string ⟨#[]⟩, .int .i64 0, .slice none 0 0] 24)).heap[w.heap.size + 1]? = some (.cells #[.string ⟨#[]⟩, .string ⟨#[]⟩, .int .i64 0, .slice none 0 0] 24 (0, 0)) by
    have e : w.heap.size + 1 = (w.alloc (.cells #[.string kind, .string text, .int .i64 num, .slice a n cap] 24)).heap.size := by simp
    rw [e, heap_alloc_new])
  clear hgood h hd
  go_enter Tryz.func43, Tryz.ntmps43
  go_wp2_with fail
  generalize ((w.alloc (.cells #[.string kind, .string text, .int .i64 num, .slice a n cap] 24)).alloc (.cells #[.string ⟨#[]⟩, .string ⟨#[]⟩, .int .i64 0, .slice none 0 0] 24)) = w0 at *
  go_loopg [3] d (fun gk _ wr => ∃ t kd tx nm a1 n1 cap1, Dep gk t ∧ gk ≤ d ∧ Good t ∧ NV w [.string kd, .string tx, .int .i64 nm, .slice a1 n1 cap1] t ∧ Below w.heap.size w wr ∧ wr.heap[w.heap.size]? = some (.cells #[.string kd, .string tx, .int .i64 nm, .slice a1 n1 cap1] 24 (0, 0)) ∧ wr.heap[w.heap.size + 1]? = some (.cells #[.string ⟨#[]⟩, .string ⟨#[]⟩, .int .i64 0, .slice none 0 0] 24 (0, 0)))
  case atStart => exact ⟨_, _, _, _, _, _, _, HDD.out, Nat.le_refl _, HG.out, HNV.out, HW0.out, HS0.out, HS1.out⟩
  case round =>
    obtain ⟨t, kd, tx, nm, a1, n1, cap1, hdep, hgd, hg, hnv, hbw, hh, hh1⟩ := hrel
    have HH := Lib.hid hh
    have HH1 := Lib.hid hh1
    have HBW := Lib.hid hbw
    obtain ⟨⟨y0, y1, y2, y3⟩, f0, f1, f2, f3⟩ := node_cells hh
    rcases bt (kd.toList == [81, 117, 97, 108, 105, 102, 105, 101, 100]) with qQualified | qQualified
    · obtain ⟨ks, rfl, _, _, hn1, _, hk1⟩ := hnv.kids
      obtain ⟨x0, x1, rfl, hg0, hg1⟩ := good_two hg (memK qQualified (by simp [twoK]))
      obtain rfl : n1 = 2 := hn1
      obtain ⟨b, off, kd3, tx3, nm3, a3, n3, cap3, kd4, tx4, nm4, a4, n4, cap4, rfl, hx3, hx4⟩ := hk1.two
      obtain ⟨k, kd2, tx2, nm2, a2, n2, cap2, hx, hgk⟩ : ∃ k kd2 tx2 nm2 a2 n2 cap2, KidAt w b (off + 4) k kd2 tx2 nm2 a2 n2 cap2 ∧ Good k ∧ k = x1 := ⟨_, _, _, _, _, _, _, hx4, hg1, rfl⟩
      obtain ⟨hgk, rfl⟩ := hgk
      clear hx3 hx4 hg0 hg1
      obtain ⟨g', rfl⟩ : ∃ g, gk = g + 1 := by cases gk with | zero => exact absurd hdep id | succ g => exact ⟨g, rfl⟩
      obtain ⟨g0, g1, g2, g3⟩ := (hx.keep hbw).cells
      have HDP := Lib.hid (show Dep g' k from hdep k (by simp))
      have HX := Lib.hid hx
      have HGK := Lib.hid hgk
      clear hx hgk hdep hg hnv hk1 hbw hh hh1
      go_wp2_with fail
      go_roundg g'
      case measure => omega
      case rel =>
        refine ⟨k, kd2, tx2, nm2, a2, n2, cap2, HDP.out, by omega, HGK.out, HX.out.nv, ?_, node_store _ _ _ _ HH.out, ?_⟩
        · exact ((((HBW.out.setCell (p := ⟨_, _, _⟩) (Nat.le_refl _) _).setCell (p := ⟨_, _, _⟩) (Nat.le_refl _) _).setCell (p := ⟨_, _, _⟩) (Nat.le_refl _) _).setCell (p := ⟨_, _, _⟩) (Nat.le_refl _) _)
        · rw [Below.heap_setCell _ _ _ _ (by simp), Below.heap_setCell _ _ _ _ (by simp), Below.heap_setCell _ _ _ _ (by simp), Below.heap_setCell _ _ _ _ (by simp)]
          exact HH1.out
    rcases bt (kd.toList == [84, 101, 109, 112, 108, 97, 116, 101]) with qTemplate | qTemplate
    · obtain ⟨ks, rfl, _, _, hn1, _, hk1⟩ := hnv.kids
      obtain ⟨k, ks', rfl, hgk⟩ := good_tmpl hg (eq_list qTemplate)
      have hn0 : 0 < n1 := by simp at hn1; omega
      clear hn1
      obtain ⟨b, off, kd2, tx2, nm2, a2, n2, cap2, rfl, hx⟩ := hk1.one
      obtain ⟨g', rfl⟩ : ∃ g, gk = g + 1 := by cases gk with | zero => exact absurd hdep id | succ g => exact ⟨g, rfl⟩
      obtain ⟨g0, g1, g2, g3⟩ := (hx.keep hbw).cells
      have HDP := Lib.hid (show Dep g' k from hdep k (by simp))
      have HX := Lib.hid hx
      have HGK := Lib.hid hgk
      clear hx hgk hdep hg hnv hk1 hbw hh hh1
      go_wp2_with fail
      go_roundg g'
      case measure => omega
      case rel =>
        refine ⟨k, kd2, tx2, nm2, a2, n2, cap2, HDP.out, by omega, HGK.out, HX.out.nv, ?_, node_store _ _ _ _ HH.out, ?_⟩
        · exact ((((HBW.out.setCell (p := ⟨_, _, _⟩) (Nat.le_refl _) _).setCell (p := ⟨_, _, _⟩) (Nat.le_refl _) _).setCell (p := ⟨_, _, _⟩) (Nat.le_refl _) _).setCell (p := ⟨_, _, _⟩) (Nat.le_refl _) _)
        · rw [Below.heap_setCell _ _ _ _ (by simp), Below.heap_setCell _ _ _ _ (by simp), Below.heap_setCell _ _ _ _ (by simp), Below.heap_setCell _ _ _ _ (by simp)]
          exact HH1.out
    rcases bt (kd.toList == [84, 97, 103, 103, 101, 100, 78, 97, 109, 101]) with qTaggedName | qTaggedName
    · obtain ⟨ks, rfl, _, _, hn1, _, hk1⟩ := hnv.kids
      obtain ⟨x0, x1, rfl, hg0, hg1⟩ := good_two hg (memK qTaggedName (by simp [twoK]))
      obtain rfl : n1 = 2 := hn1
      obtain ⟨b, off, kd3, tx3, nm3, a3, n3, cap3, kd4, tx4, nm4, a4, n4, cap4, rfl, hx3, hx4⟩ := hk1.two
      obtain ⟨k, kd2, tx2, nm2, a2, n2, cap2, hx, hgk⟩ : ∃ k kd2 tx2 nm2 a2 n2 cap2, KidAt w b off k kd2 tx2 nm2 a2 n2 cap2 ∧ Good k ∧ k = x0 := ⟨_, _, _, _, _, _, _, hx3, hg0, rfl⟩
      obtain ⟨hgk, rfl⟩ := hgk
      clear hx3 hx4 hg0 hg1
      obtain ⟨g', rfl⟩ : ∃ g, gk = g + 1 := by cases gk with | zero => exact absurd hdep id | succ g => exact ⟨g, rfl⟩
      obtain ⟨g0, g1, g2, g3⟩ := (hx.keep hbw).cells
      have HDP := Lib.hid (show Dep g' k from hdep k (by simp))
      have HX := Lib.hid hx
      have HGK := Lib.hid hgk
      clear hx hgk hdep hg hnv hk1 hbw hh hh1
      go_wp2_with fail
      go_roundg g'
      case measure => omega
      case rel =>
        refine ⟨k, kd2, tx2, nm2, a2, n2, cap2, HDP.out, by omega, HGK.out, HX.out.nv, ?_, node_store _ _ _ _ HH.out, ?_⟩
        · exact ((((HBW.out.setCell (p := ⟨_, _, _⟩) (Nat.le_refl _) _).setCell (p := ⟨_, _, _⟩) (Nat.le_refl _) _).setCell (p := ⟨_, _, _⟩) (Nat.le_refl _) _).setCell (p := ⟨_, _, _⟩) (Nat.le_refl _) _)
        · rw [Below.heap_setCell _ _ _ _ (by simp), Below.heap_setCell _ _ _ _ (by simp), Below.heap_setCell _ _ _ _ (by simp), Below.heap_setCell _ _ _ _ (by simp)]
          exact HH1.out
    obtain ⟨⟨z0, z1, z2, z3⟩, k0, k1, k2, k3⟩ := node_cells hh1
    have HDQ := Lib.hid hdep
    have HGK := Lib.hid hg
    have HX := Lib.hid hnv
    clear hdep hg hnv hbw hh hh1
    have HDP := Lib.hid (HDQ.out.up hgd)
    go_wp2_with fail
    (try simp only [Exit.inBlock, Exit.then])
    refine bodyPost_ret (results_cell_row rfl _ _ (w.heap.size + 1) _ _ _ _ rfl (node_store _ _ _ _ HH1.out) Tryz.underlying24 rfl (by kernel_rfl)) rfl ?_
    have hbe := ((((HBW.out.setCell (p := ⟨w.heap.size + 1, 0, none⟩) (by simp) (.string kd)).setCell (p := ⟨w.heap.size + 1, 1, none⟩) (by simp) (.string tx)).setCell (p := ⟨w.heap.size + 1, 2, none⟩) (by simp) (.int .i64 nm)).setCell (p := ⟨w.heap.size + 1, 3, none⟩) (by simp) (.slice a1 n1 cap1))
    exact ⟨t, kd, tx, nm, a1, n1, cap1, rfl, HDP.out, HGK.out, HX.out, hbe⟩

set_option maxRecDepth 100000 in
set_option maxHeartbeats 8000000 in
theorem tail_any (d : Nat) (t : NT) (kind text : ByteArray) (num : Int) (a : Option Addr) (n cap : Nat) (w : World) (h : NV w [.string kind, .string text, .int .i64 num, .slice a n cap] t) (hd : Dep d t) (hgood : Good t) :
    Calls Tryz.prog 47 #[.agg #[.string kind, .string text, .int .i64 num, .slice a n cap]] w (SaysNode d w) := by
  have HG := Lib.hid hgood
  have HNV := Lib.hid h
  have HDD := Lib.hid hd
  obtain ⟨kids, rfl, _, _, hn, _, hk⟩ := h.kids
  rcases bt (kind.toList == [84, 101, 109, 112, 108, 97, 116, 101]) with q | q
  · obtain ⟨k, ks, rfl, hgk⟩ := good_tmpl hgood (eq_list q)
    have hn0 : 0 < n := by simp at hn; omega
    obtain ⟨b, off, kd, tx, nm, a1, n1, cap1, rfl, hx⟩ := hk.one
    obtain ⟨g, rfl⟩ : ∃ g, d = g + 1 := by cases d with | zero => exact absurd hd id | succ g => exact ⟨g, rfl⟩
    have HDP := Lib.hid (show Dep g k from hd k (by simp))
    have HX := Lib.hid hx
    have HGK := Lib.hid hgk
    obtain ⟨g0, g1, g2, g3⟩ := (hx.keep (behind (below_new w (.cells #[.string kind, .string text, .int .i64 num, .slice (some ⟨b, off, none⟩) n cap] 24)) (below_new _ (.cells #[.string ⟨#[]⟩, .string ⟨#[]⟩, .int .i64 0, .slice none 0 0] 24)))).cells
    rcases bt (kd.toList == [81, 117, 97, 108, 105, 102, 105, 101, 100]) with q2 | q2
    · obtain ⟨ks2, rfl, _, _, hn1, _, hk1⟩ := hx.nv.kids
      obtain ⟨l0, l1, rfl, _, hgl⟩ := good_two hgk (memK q2 (by simp [twoK]))
      obtain rfl : n1 = 2 := hn1
      obtain ⟨b2, off2, _, _, _, _, _, _, kd2, tx2, nm2, a2, n2, cap2, rfl, _, hy⟩ := hk1.two
      obtain ⟨g', rfl⟩ : ∃ g', g = g' + 1 := by cases g with | zero => exact absurd HDP.out id | succ g => exact ⟨g, rfl⟩
      have HDL := Lib.hid (show Dep g' l1 from HDP.out l1 (by simp))
      have HY := Lib.hid hy
      have HGL := Lib.hid hgl
      obtain ⟨k0, k1, k2, k3⟩ := (hy.keep (behind (below_new w (.cells #[.string kd, .string tx, .int .i64 nm, .slice (some ⟨b2, off2, none⟩) 2 cap1] 24)) (below_new _ (.cells #[.string ⟨#[]⟩, .string ⟨#[]⟩, .int .i64 0, .slice none 0 0] 24)))).cells
      clear hgood h hd hn hk hx hgk hk1 hy hgl
      go_enter Tryz.func47, Tryz.ntmps47
      go_wp2_with fail
      (try simp only [Exit.inBlock, Exit.then])
      refine bodyPost_ret (results_cell_row rfl _ _ (w.heap.size + 1) _ _ _ _ rfl (heap_alloc2_new _ _ _) Tryz.underlying24 rfl (by kernel_rfl)) rfl ?_
      exact ⟨_, _, _, _, _, _, _, rfl, HDL.out.mono.mono, HGL.out, HY.out.nv, behind (below_new _ _) (below_new _ _)⟩
    · clear hgood h hd hn hk hx hgk
      go_enter Tryz.func47, Tryz.ntmps47
      go_wp2_with fail
      (try simp only [Exit.inBlock, Exit.then])
      refine bodyPost_ret (results_cell_row rfl _ _ (w.heap.size + 1) _ _ _ _ rfl (heap_alloc2_new _ _ _) Tryz.underlying24 rfl (by kernel_rfl)) rfl ?_
      exact ⟨_, _, _, _, _, _, _, rfl, HDP.out.mono, HGK.out, HX.out.nv, behind (below_new _ _) (below_new _ _)⟩
  · rcases bt (kind.toList == [81, 117, 97, 108, 105, 102, 105, 101, 100]) with q2 | q2
    · obtain ⟨l0, l1, rfl, _, hgl⟩ := good_two hgood (memK q2 (by simp [twoK]))
      obtain rfl : n = 2 := hn
      obtain ⟨b2, off2, _, _, _, _, _, _, kd2, tx2, nm2, a2, n2, cap2, rfl, _, hy⟩ := hk.two
      obtain ⟨g', rfl⟩ : ∃ g', d = g' + 1 := by cases d with | zero => exact absurd hd id | succ g => exact ⟨g, rfl⟩
      have HDL := Lib.hid (show Dep g' l1 from hd l1 (by simp))
      have HY := Lib.hid hy
      have HGL := Lib.hid hgl
      obtain ⟨k0, k1, k2, k3⟩ := (hy.keep (behind (below_new w (.cells #[.string kind, .string text, .int .i64 num, .slice (some ⟨b2, off2, none⟩) 2 cap] 24)) (below_new _ (.cells #[.string ⟨#[]⟩, .string ⟨#[]⟩, .int .i64 0, .slice none 0 0] 24)))).cells
      clear hgood h hd hk hy hgl
      go_enter Tryz.func47, Tryz.ntmps47
      go_wp2_with fail
      (try simp only [Exit.inBlock, Exit.then])
      refine bodyPost_ret (results_cell_row rfl _ _ (w.heap.size + 1) _ _ _ _ rfl (heap_alloc2_new _ _ _) Tryz.underlying24 rfl (by kernel_rfl)) rfl ?_
      exact ⟨_, _, _, _, _, _, _, rfl, HDL.out.mono, HGL.out, HY.out.nv, behind (below_new _ _) (below_new _ _)⟩
    · clear hgood h hd hn hk
      go_enter Tryz.func47, Tryz.ntmps47
      go_wp2_with fail
      (try simp only [Exit.inBlock, Exit.then])
      refine bodyPost_ret (results_cell_row rfl _ _ (w.heap.size + 1) _ _ _ _ rfl (heap_alloc2_new _ _ _) Tryz.underlying24 rfl (by kernel_rfl)) rfl ?_
      exact ⟨_, _, _, _, _, _, _, rfl, HDD.out, HG.out, HNV.out, behind (below_new _ _) (below_new _ _)⟩

end Go.Proofs.YtdlhhdhooacogaaGreatDoor

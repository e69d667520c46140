/-
  isReturn, last, isFunctionType.
-/
import Derived.Test.YtdlhhdhooacogaaGreatDoorWM
import Derived.Deep.LoopGhost
namespace Go.Proofs.YtdlhhdhooacogaaGreatDoor
open Go.RowKit

/-- Four stores into a struct Node of the call's own. -/
theorem node_store {w : World} {B : Nat} {c0 c1 c2 c3 : Value} (d0 d1 d2 d3 : Value) (h : w.heap[B]? = some (.cells #[c0, c1, c2, c3] 24 (0, 0))) :
    ((((w.setCell ⟨B, 0, none⟩ d0).setCell ⟨B, 1, none⟩ d1).setCell ⟨B, 2, none⟩ d2).setCell ⟨B, 3, none⟩ d3).heap[B]? = some (.cells #[d0, d1, d2, d3] 24 (0, 0)) := by
  have h1 := heap_setCell_same w B 0 _ _ d0 h
  have h2 := heap_setCell_same _ B 1 _ _ d1 h1
  have h3 := heap_setCell_same _ B 2 _ _ d2 h2
  have h4 := heap_setCell_same _ B 3 _ _ d3 h3
  simpa using h4

theorem node_cells {w : World} {B : Nat} {c0 c1 c2 c3 : Value} (h : w.heap[B]? = some (.cells #[c0, c1, c2, c3] 24 (0, 0))) :
    (w.cell? ⟨B, 0, none⟩ = some c0 ∧ w.cell? ⟨B, 1, none⟩ = some c1 ∧ w.cell? ⟨B, 2, none⟩ = some c2 ∧ w.cell? ⟨B, 3, none⟩ = some c3) ∧
    (w.frozen? ⟨B, 0, none⟩ = false ∧ w.frozen? ⟨B, 1, none⟩ = false ∧ w.frozen? ⟨B, 2, none⟩ = false ∧ w.frozen? ⟨B, 3, none⟩ = false) := by
  refine ⟨⟨?_, ?_, ?_, ?_⟩, ?_, ?_, ?_, ?_⟩ <;> simp [World.cell?, World.frozen?, h]

theorem good_ptr {kd tx : ByteArray} {nm : Int} {kids : List NT} (h : Good (.mk kd tx nm kids)) (hk : kd = ⟨#[80, 111, 105, 110, 116, 101, 114, 84, 121, 112, 101]⟩) : ∃ k, kids = [k] ∧ Good k := by
  subst hk
  cases h with
  | leaf h => simp [leafK] at h
  | one h hg => exact ⟨_, rfl, hg⟩
  | two h _ _ => simp [twoK] at h
  | qual h _ _ => simp [qualK] at h
  | list h _ => simp [listK] at h
  | tmpl h _ _ => simp at h
  | func h _ _ => simp at h
  | proc h _ _ => simp at h

set_option maxHeartbeats 8000000 in
theorem isReturn_of (d : Nat) (hT : Wk 38 Good d) : Wk 21 Good d := by
  intro t kind text num a n cap w h ht hd
  have hcap := h.cap
  obtain ⟨kids, rfl, hz1, hz2, hn, hm, hk⟩ := h.kids
  have HDT := Lib.hid hd
  have HZ1 := Lib.hid hz1
  have HZ2 := Lib.hid hz2
  have HM := Lib.hid hm
  unfold maxLen at hz1 hz2 hm
  have HB0 := Lib.hid (box_at h)
  have HT0 := Lib.hid (ht.keep (below_new w (.cells #[.string kind, .string text, .int .i64 num, .slice a n cap] 24)))
  have HK0 := Lib.hid (hk.keep (below_new w (.cells #[.string kind, .string text, .int .i64 num, .slice a n cap] 24)))
  have HW0 := Lib.hid (below_new w (.cells #[.string kind, .string text, .int .i64 num, .slice a n cap] 24))
  have HN := Lib.hid hn
  clear hk h ht hd hn
  have HTY := Lib.hid hT
  clear hT hcap hm hz1 hz2
  go_enter Tryz.func21, Tryz.ntmps21
  go_wp2_with fail
  refine (HTY.out.at HB0.out HT0.out HDT.out).mono ?_
  rintro e w1 ⟨b1, rfl, hp1, hb1⟩
  have HP1 := Lib.hid hp1
  have HB1 := Lib.hid (HB0.out.keep hb1)
  have HT1 := Lib.hid (HT0.out.keep hb1)
  have HK1 := Lib.hid (HK0.out.keep hb1)
  have HW1 := Lib.hid (behind HW0.out hb1)
  clear hp1 hb1
  obtain ⟨xb0, xb1, xb2, xb3⟩ := HB1.out.box
  cases b1 with
  | false =>
    go_wp2_with fail
    go_ret
    exact .no HW1.out
  | true =>
    go_wp2_with fail
    refine ((turned_any d).toWk.at HB1.out HT1.out HDT.out).mono ?_
    rintro e w2 ⟨b2, rfl, hp2, hb2⟩
    have HP2 := Lib.hid hp2
    have HB2 := Lib.hid (HB1.out.keep hb2)
    have HT2 := Lib.hid (HT1.out.keep hb2)
    have HK2 := Lib.hid (HK1.out.keep hb2)
    have HW2 := Lib.hid (behind HW1.out hb2)
    clear hp2 hb2
    clear xb0 xb1 xb2 xb3
    obtain ⟨xb0, xb1, xb2, xb3⟩ := HB2.out.box
    cases b2 with
    | false =>
      go_wp2_with fail
      go_ret
      exact .yes (HP1.out (by simp)) HW2.out
    | true =>
      go_wp2_with fail
      have hst : (w2.alloc (.cells #[.string kind, .string text, .int .i64 num, .slice a n cap] 24)).heap[w2.heap.size]? = some (.cells #[.string kind, .string text, .int .i64 num, .slice a n cap] 24 (0, 0)) := heap_alloc_new _ _
      have HST := Lib.hid hst
      clear hst
      have HBN := Lib.hid (below_new w2 (.cells #[.string kind, .string text, .int .i64 num, .slice a n cap] 24))
      clear xb0 xb1 xb2 xb3
      generalize (w2.alloc (.cells #[.string kind, .string text, .int .i64 num, .slice a n cap] 24)) = w3 at *
      go_loopg [11] d (fun gk _ wr => ∃ t kd tx nm a1 n1 cap1, Dep gk t ∧ Good t ∧ NV w2 [.string kd, .string tx, .int .i64 nm, .slice a1 n1 cap1] t ∧ Below w2.heap.size w2 wr ∧ wr.heap[w2.heap.size]? = some (.cells #[.string kd, .string tx, .int .i64 nm, .slice a1 n1 cap1] 24 (0, 0)))
      case atStart => exact ⟨_, _, _, _, _, _, _, HDT.out, HP1.out (by simp), HB2.out.nv, HBN.out, HST.out⟩
      case round =>
        obtain ⟨t, kd, tx, nm, a1, n1, cap1, hdep, hg, hnv, hbw, hh⟩ := hrel
        have HH := Lib.hid hh
        have HBW := Lib.hid hbw
        obtain ⟨⟨y0, y1, y2, y3⟩, f0, f1, f2, f3⟩ := node_cells hh
        obtain ⟨x0, x1, x2, x3⟩ := (HB2.out.keep hbw).box
        rcases bt (kd.toList == [80, 111, 105, 110, 116, 101, 114, 84, 121, 112, 101]) with q | q
        · obtain ⟨ks, rfl, _, _, hn1, _, hk1⟩ := hnv.kids
          obtain ⟨k, rfl, hgk⟩ := good_ptr hg (eq_list q)
          obtain rfl : n1 = 1 := hn1
          obtain ⟨b, off, kd2, tx2, nm2, a2, n2, cap2, rfl, hx⟩ := hk1.one
          obtain ⟨g', rfl⟩ : ∃ g, gk = g + 1 := by cases gk with | zero => exact absurd hdep id | succ g => exact ⟨g, rfl⟩
          obtain ⟨g0, g1, g2, g3⟩ := (hx.keep hbw).cells
          have HDP := Lib.hid (show Dep g' k from hdep k (by simp))
          have HX := Lib.hid hx
          have HGK := Lib.hid hgk
          clear hx hgk hdep hg hnv hk1 hbw hh
          go_wp2_with fail
          go_roundg g'
          case measure => omega
          case rel =>
            refine ⟨k, kd2, tx2, nm2, a2, n2, cap2, HDP.out, HGK.out, HX.out.nv, ?_, node_store _ _ _ _ HH.out⟩
            exact ((((HBW.out.setCell (p := ⟨_, _, _⟩) (Nat.le_refl _) _).setCell (p := ⟨_, _, _⟩) (Nat.le_refl _) _).setCell (p := ⟨_, _, _⟩) (Nat.le_refl _) _).setCell (p := ⟨_, _, _⟩) (Nat.le_refl _) _)
        · clear hdep hg hnv hbw hh
          go_wp2_with fail
          all_goals (go_ret; exact .yes (HP1.out (by simp)) (behind HW2.out HBW.out))

end Go.Proofs.YtdlhhdhooacogaaGreatDoor

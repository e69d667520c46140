/-
  kid and kids: elements made.
-/
import Derived.Test.YtdlhhdhooacogaaGreatDoorWG
import Derived.Test.YtdlhhdhooacogaaGreatDoorWH
import Derived.Test.YtdlhhdhooacogaaGreatDoorL
namespace Go.Proofs.YtdlhhdhooacogaaGreatDoor
open Go.RowKit

theorem Tryz.infoAst : (Tryz.prog.info? 32).map (fun i => (i.zero, i.size, i.bytes)) = some (some .nilIface, 1, 16) := by kernel_rfl

/-- What is said of an element whose blocks are S; it is kept where they stand. -/
abbrev ElemP : Type := (Nat → Prop) → World → Value → Prop
def Kept (E : ElemP) : Prop := ∀ S w w' v, E S w v → (∀ k, S k → k < w.heap.size) → w.heap.size ≤ w'.heap.size → (∀ k, S k → w'.heap[k]? = w.heap[k]?) → E S w' v

/-- It hands back an element of new blocks; what was there stands. -/
def Made (E : ElemP) (w : World) (e : Ending) (w' : World) : Prop :=
  ∃ v S, e = .returned v ∧ (v = .nilIface ∨ ∃ T p, v = .iface T p) ∧ (∀ k, S k → w.heap.size ≤ k ∧ k < w'.heap.size) ∧ E S w' v ∧ Below w.heap.size w w'

/-- What treeOf makes of a tree. -/
def TreeC (E : ElemP) (t : NT) : Prop := ∀ kind text num a n cap w, NV w [.string kind, .string text, .int .i64 num, .slice a n cap] t →
  Calls Tryz.prog 14 #[.agg #[.string kind, .string text, .int .i64 num, .slice a n cap]] w (Made E w)

set_option maxHeartbeats 2000000 in
theorem kid_of (E : ElemP) (kids : List NT) (i : Nat) (hi : i < kids.length) (hT : TreeC E (kids.getD i default)) (kind text : ByteArray) (num : Int) (a : Option Addr) (n cap : Nat) (w : World) (h : NV w [.string kind, .string text, .int .i64 num, .slice a n cap] (.mk kind text num kids)) :
    Calls Tryz.prog 30 #[.agg #[.string kind, .string text, .int .i64 num, .slice a n cap], .int .i64 i] w (Made E w) := by
  obtain ⟨kids', e, _, _, hn, hm, hk⟩ := h.kids
  simp at e
  subst e
  obtain ⟨b, off, kd, tx, nm, a1, n1, cap1, rfl, hx⟩ := (hk.keep (below_new w (.cells #[.string kind, .string text, .int .i64 num, .slice a n cap] 24))).nth i hi
  have hlt : (i : Int) < (n : Int) := by omega
  have hlt2 : i < n := by omega
  have hm2 : n ≤ 9223372036854775807 := by unfold maxLen at hm; omega
  have HT := Lib.hid hT
  have HX := Lib.hid hx
  have HW := Lib.hid (below_new w (.cells #[.string kind, .string text, .int .i64 num, .slice (some ⟨b, off, none⟩) n cap] 24))
  obtain ⟨g0, g1, g2, g3⟩ := hx.cells
  clear hn hm hk h hi hT hx
  go_enter Tryz.func30, Tryz.ntmps30
  go_wp2_with fail
  refine (HT.out _ _ _ _ _ _ _ HX.out.nv).mono ?_
  rintro e w1 ⟨v, S, rfl, hs, hS, hE, hb⟩
  have HS := Lib.hid hs
  have HSS := Lib.hid hS
  have HE := Lib.hid hE
  have HB := Lib.hid (behind HW.out hb)
  clear hs hS hE hb
  go_wp2_with fail
  go_ret
  exact ⟨v, S, rfl, HS.out, fun k hk => by have := HSS.out k hk; simp at this; omega, HE.out, HB.out⟩

/-- A row of elements: the blocks from lo on; of each: what Es says. -/
def RowOf (Es : Nat → ElemP) (f m lo : Nat) (w : World) (v : Value) : Prop :=
  ∃ vs, w.ownsRow lo 32 1 v m vs ∧ ∀ i, i < m → ∃ S, (∀ k, S k → lo ≤ k ∧ k < w.heap.size ∧ v.ownBlock ≠ some k) ∧ Es (f + i) S w (vs.getD i .nilIface)

/-- It hands back such a row, new; what was there stands. -/
def MadeRow (Es : Nat → ElemP) (f m : Nat) (w : World) (e : Ending) (w' : World) : Prop := ∃ v, e = .returned v ∧ RowOf Es f m w.heap.size w' v ∧ Below w.heap.size w w'

theorem RowOf.low {Es : Nat → ElemP} {f m lo lo' : Nat} {w : World} {v : Value} (h : RowOf Es f m lo w v) (hl : lo' ≤ lo) : RowOf Es f m lo' w v := by
  obtain ⟨vs, h1, h2⟩ := h
  refine ⟨vs, ⟨h1.1, ?_⟩, fun i hi => ?_⟩
  · rcases h1.2 with h | ⟨g, cap, cur, e, hg, r⟩
    · exact .inl h
    · exact .inr ⟨g, cap, cur, e, by omega, r⟩
  · obtain ⟨S, hS, hE⟩ := h2 i hi
    exact ⟨S, fun k hk => ⟨by have := (hS k hk).1; omega, (hS k hk).2⟩, hE⟩

theorem RowOf.more {Es : Nat → ElemP} (hE : ∀ i, Kept (Es i)) {f m lo : Nat} {w w1 w2 : World} {v v' : Value} {vs : List Value} {ve : Value} {Se : Nat → Prop} {O : Obj} (hown : w.ownsRow lo 32 1 v m vs)
    (hel : ∀ i, i < m → ∃ S, (∀ k, S k → lo ≤ k ∧ k < w.heap.size ∧ v.ownBlock ≠ some k) ∧ Es (f + i) S w (vs.getD i .nilIface)) (hlo : lo ≤ w.heap.size)
    (hSe : ∀ k, Se k → w.heap.size ≤ k ∧ k < w1.heap.size) (hEe : Es (f + m) Se w1 ve) (hb : Below w.heap.size w w1) (hl : vs.length = m)
    (h5 : w2.ownsRow lo 32 1 v' (m + 1) (vs ++ [ve])) (h6 : (w1.alloc O).grownBy w2 v.ownBlock) (h7 : v'.ownBlock = v.ownBlock ∨ ∃ g, v'.ownBlock = some g ∧ w1.heap.size + 1 ≤ g) : RowOf Es f (m + 1) lo w2 v' := by
  have hs6 := h6.size
  have hsb := hb.size
  simp at hs6
  have own : ∀ k, v.ownBlock = some k → k < w.heap.size := fun k hk => (hown.lt k hk).2
  refine ⟨_, h5, fun i hi => ?_⟩
  by_cases him : i < m
  · obtain ⟨S, hS, hEi⟩ := hel i him
    have e1 : (vs ++ [ve]).getD i .nilIface = vs.getD i .nilIface := by
      simp only [List.getD, List.getElem?_append_left (by omega : i < vs.length)]
    refine ⟨S, fun k hk => ?_, ?_⟩
    · obtain ⟨h1, h2, h3⟩ := hS k hk
      refine ⟨h1, by omega, ?_⟩
      rcases h7 with h7 | ⟨g, h7, hg⟩
      · rw [h7]; exact h3
      · rw [h7]; intro e; cases e; omega
    · rw [e1]
      refine hE _ S w w2 _ hEi (fun k hk => (hS k hk).2.1) (by omega) (fun k hk => ?_)
      obtain ⟨h1, h2, h3⟩ := hS k hk
      rw [h6.block k (by simp; omega) (fun e => h3 e.symm), Below.heap_alloc w1 O k (by omega), hb.block k h2]
  · obtain rfl : i = m := by omega
    have e1 : (vs ++ [ve]).getD i .nilIface = ve := by
      simp only [List.getD, ← hl, List.getElem?_append_right (Nat.le_refl _), Nat.sub_self, List.getElem?_cons_zero, Option.getD_some]
    refine ⟨Se, fun k hk => ?_, ?_⟩
    · obtain ⟨h1, h2⟩ := hSe k hk
      refine ⟨by omega, by omega, ?_⟩
      rcases h7 with h7 | ⟨g, h7, hg⟩
      · rw [h7]; intro e; have := own k e; omega
      · rw [h7]; intro e; cases e; omega
    · rw [e1]
      refine hE _ Se w1 w2 _ hEe (fun k hk => (hSe k hk).2) (by omega) (fun k hk => ?_)
      obtain ⟨h1, h2⟩ := hSe k hk
      rw [h6.block k (by simp; omega) (fun e => by have := own k e.symm; omega), Below.heap_alloc w1 O k h2]

set_option maxRecDepth 100000 in
set_option maxHeartbeats 4000000 in
theorem kids_of (Es : Nat → ElemP) (hE : ∀ i, Kept (Es i)) (f : Nat) (kids : List NT) (hT : ∀ i, f ≤ i → i < kids.length → TreeC (Es i) (kids.getD i default)) (kind text : ByteArray) (num : Int) (a : Option Addr) (n cap : Nat) (w : World) (hf : f ≤ n) (hn200 : n ≤ 1000)
    (h : NV w [.string kind, .string text, .int .i64 num, .slice a n cap] (.mk kind text num kids)) :
    Calls Tryz.prog 31 #[.agg #[.string kind, .string text, .int .i64 num, .slice a n cap], .int .i64 f] w (MadeRow Es f (n - f) w) := by
  obtain ⟨kids', e, _, _, hn, hm, hk⟩ := h.kids
  simp at e
  subst e
  obtain ⟨i0, hi, hz0, hz1, hz2⟩ := info_parts Tryz.infoAst
  have HT := Lib.hid hT
  have HE := Lib.hid hE
  have HX := Lib.hid (box_at h)
  have HK := Lib.hid (hk.keep (below_new w (.cells #[.string kind, .string text, .int .i64 num, .slice a n cap] 24)))
  have HN := Lib.hid hn
  have HW := Lib.hid (below_new w (.cells #[.string kind, .string text, .int .i64 num, .slice a n cap] 24))
  have hlo : w.heap.size < (w.alloc (.cells #[.string kind, .string text, .int .i64 num, .slice a n cap] 24)).heap.size := by simp
  have HLO := Lib.hid hlo
  clear hn hm hk h hT hE hlo
  go_enter Tryz.func31, Tryz.ntmps31
  go_wp2_with fail
  generalize (w.alloc (.cells #[.string kind, .string text, .int .i64 num, .slice a n cap] 24)) = w0 at *
  go_loopw [6, 5] (fun i v wr => ∃ (k : Nat), f ≤ k ∧ k ≤ n ∧ i = .int .i64 k ∧ Below w0.heap.size w0 wr ∧ RowOf Es f (k - f) w0.heap.size wr v) (fun i _ _ => n - (intOf i).toNat)
  case atStart => exact ⟨f, Nat.le_refl _, hf, rfl, Below.refl _ _, [], by rw [Nat.sub_self]; exact World.ownsRow_nil _ _ _ _, fun i hi => by omega⟩
  case round =>
    obtain ⟨k, hfk, hkn, rfl, hbw, vs, hown, hel⟩ := hrel
    obtain ⟨x0, x1, x2, x3⟩ := (HX.out.keep hbw).box
    by_cases hlt : k < n
    · have hlt2 : (k : Int) < (n : Int) := by omega
      have hlk : k < kids.length := by rw [← HN.out]; exact hlt
      obtain ⟨b, off, kd, tx, nm, a1, n1, cap1, rfl, hx⟩ := (HK.out.keep hbw).nth k hlk
      obtain ⟨g0, g1, g2, g3⟩ := hx.cells
      have HC := Lib.hid (HT.out k hfk hlk _ _ _ _ _ _ _ hx.nv)
      have HOWN := Lib.hid hown
      have HEL := Lib.hid hel
      have HBW := Lib.hid hbw
      obtain ⟨av, cv, rfl⟩ : ∃ av cv, u5 = .slice av (k - f) cv := by
        rcases hown.2 with ⟨e, e'⟩ | ⟨g, cap, cur, e, _⟩
        · exact ⟨none, 0, by rw [e, e']⟩
        · exact ⟨_, _, e⟩
      clear hx hown hel hbw hlk
      go_wp2_with fail
      refine HC.out.mono ?_
      rintro e w1 ⟨ve, Se, rfl, hs, hSe, hEe, hb1⟩
      have hown1 := HOWN.out.kept (show wr.grownBy w1 none from ⟨hb1.os, hb1.tape, hb1.output, hb1.size, fun k hk _ => hb1.block k hk⟩) (by cases hv : (Value.slice av (k - f) cv).ownBlock <;> simp)
      have hsz1 : w0.heap.size ≤ w1.heap.size := by have := HBW.out.size; have := hb1.size; omega
      have hone : ve.oneCell' = true := by rcases hs with rfl | ⟨T, p, rfl⟩ <;> rfl
      have HSe := Lib.hid hSe
      have HEe := Lib.hid hEe
      have HB1 := Lib.hid hb1
      clear hSe hEe hb1
      rcases hs with rfl | ⟨T, p, rfl⟩
      · go_wp2_with (at_builtin; refine wpList_append_srcB _ rfl _ _ 60 60 rfl w0.heap.size 32 i0 .nilIface 1 16 Tryz.underlying60 hi hz0 hz1 hz2 rfl _ _ _ _ rfl rfl (hown1.alloc _) 1 [.nilIface] (Src.ofSlice _ Tryz.underlying60 ⟨w1.heap.size, 0, none⟩ 1 1 _ rfl (cell_one_new _ _ _) (by simp [Value.oneCell'])) ?c3 (by omega) (by simp; omega) ?_)
        case c3 => unfold maxLen; omega
        intro v1 w2 h5 h6 h7
        have hk1 : k - f + 1 = k + 1 - f := by omega
        have hr := RowOf.more (f := f) HE.out HOWN.out HEL.out (by have := HBW.out.size; omega) HSe.out (by rw [show f + (k - f) = k from by omega]; exact HEe.out) HB1.out (by have := HOWN.out.1; simpa using this) h5 h6 h7
        rw [hk1] at hr
        have hb2 : Below w0.heap.size w0 w2 := by
          have hb3 := behind HBW.out HB1.out
          exact (hb3.alloc hb3.size _).grown h6 (by have := hb3.size; simp; omega) (fun k hk => (HOWN.out.lt k hk).1)
        have HR := Lib.hid hr
        have HB2 := Lib.hid hb2
        clear hr hb2 h5 h6 h7 hown1 hk1
        go_wp2_with fail
        go_roundw
        case rel => exact ⟨k + 1, by omega, by omega, by go_num, HB2.out, HR.out⟩
        case measure => simp [intOf]; omega
      · go_wp2_with (at_builtin; refine wpList_append_srcB _ rfl _ _ 60 60 rfl w0.heap.size 32 i0 .nilIface 1 16 Tryz.underlying60 hi hz0 hz1 hz2 rfl _ _ _ _ rfl rfl (hown1.alloc _) 1 [.iface T p] (Src.ofSlice _ Tryz.underlying60 ⟨w1.heap.size, 0, none⟩ 1 1 _ rfl (cell_one_new _ _ _) (by simp [Value.oneCell'])) ?c3 (by omega) (by simp; omega) ?_)
        case c3 => unfold maxLen; omega
        intro v1 w2 h5 h6 h7
        have hk1 : k - f + 1 = k + 1 - f := by omega
        have hr := RowOf.more (f := f) HE.out HOWN.out HEL.out (by have := HBW.out.size; omega) HSe.out (by rw [show f + (k - f) = k from by omega]; exact HEe.out) HB1.out (by have := HOWN.out.1; simpa using this) h5 h6 h7
        rw [hk1] at hr
        have hb2 : Below w0.heap.size w0 w2 := by
          have hb3 := behind HBW.out HB1.out
          exact (hb3.alloc hb3.size _).grown h6 (by have := hb3.size; simp; omega) (fun k hk => (HOWN.out.lt k hk).1)
        have HR := Lib.hid hr
        have HB2 := Lib.hid hb2
        clear hr hb2 h5 h6 h7 hown1 hk1
        go_wp2_with fail
        go_roundw
        case rel => exact ⟨k + 1, by omega, by omega, by go_num, HB2.out, HR.out⟩
        case measure => simp [intOf]; omega
    · obtain rfl : k = n := by omega
      have HROW := Lib.hid (RowOf.low ⟨vs, hown, hel⟩ (by have := HLO.out; omega : w.heap.size ≤ w0.heap.size))
      have HBW := Lib.hid (behind HW.out hbw)
      clear hown hel hbw
      go_wp2_with fail
      go_ret
      exact ⟨_, rfl, HROW.out, HBW.out⟩

end Go.Proofs.YtdlhhdhooacogaaGreatDoor

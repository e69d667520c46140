/-
  The state of the walk: the list so far in the captured variable; the function that Walk hands to Traverse.
-/
import Derived.Test.YtdlhhdhooacogaaGreatDoorYA
import Derived.Test.YtdlhhdhooacogaaGreatDoorYB
import Derived.WalkLawsBesides
import Derived.WalkSpells
namespace Go.Proofs.YtdlhhdhooacogaaGreatDoor
open Go.RowKit

/-- The kinds that are reached: of a tree of depth d. -/
def keptOf (kind : ByteArray) (kids : List NT) : List NT := if kind = ⟨#[84, 121, 112, 101, 87, 105, 116, 104, 81, 117, 97, 108, 105, 102, 105, 101, 114, 115]⟩ ∨ kind = ⟨#[77, 101, 116, 104, 111, 100, 87, 105, 116, 104, 81, 117, 97, 108, 105, 102, 105, 101, 114, 115]⟩ then kids.take 1 else kids
def kindsN (stop : ByteArray) : Nat → NT → List ByteArray
  | 0, _ => []
  | d + 1, .mk kind _ _ kids => if kind = ⟨#[]⟩ then [] else kind :: (if kind = stop then [] else (keptOf kind kids).flatMap (kindsN stop d))

theorem Tryz.infoString : (Tryz.prog.info? 9).map (fun i => (i.zero, i.size, i.bytes)) = some (some (.string ⟨#[]⟩), 1, 16) := by kernel_rfl

/-- The variable 'kinds' in block o reads as xs; block s holds 'stop'; nothing else that was there in w0 has turned. -/
def St (o s : Nat) (stop : ByteArray) (w0 w : World) (xs : List ByteArray) : Prop :=
  ∃ v, w.heap[o]? = some (.cells #[v] 27 (0, 0)) ∧ w.ownsRow w0.heap.size 9 1 v xs.length (xs.map Value.string) ∧ o < w0.heap.size ∧ w0.grownBy w (some o) ∧ s < w0.heap.size ∧ s ≠ o ∧ w0.heap[s]? = some (.cells #[.string stop] 9 (0, 0))

theorem St.cell {o s b : Nat} {stop : ByteArray} {w0 w : World} {xs : List ByteArray} {v : Value} {j : Nat} (h : St o s stop w0 w xs) (hb : b < w0.heap.size) (hbo : b ≠ o) (hc : w0.cell? ⟨b, j, none⟩ = some v) : w.cell? ⟨b, j, none⟩ = some v := by
  obtain ⟨_, _, _, _, hg, _⟩ := h
  rw [World.cell?_of_block (hg.block b hb (by simpa using hbo)), hc]

theorem St.app {o s : Nat} {stop : ByteArray} {w0 w w1 : World} {xs : List ByteArray} {v v1 : Value} {O : Obj} {k : ByteArray} (h1 : w.heap[o]? = some (.cells #[v] 27 (0, 0)))
    (h2 : w.ownsRow w0.heap.size 9 1 v xs.length (xs.map Value.string)) (h3 : o < w0.heap.size) (h4 : w0.grownBy w (some o)) (hs1 : s < w0.heap.size) (hs2 : s ≠ o) (hs3 : w0.heap[s]? = some (.cells #[.string stop] 9 (0, 0)))
    (h5 : w1.ownsRow w0.heap.size 9 1 v1 (xs.length + 1) (xs.map Value.string ++ [.string k])) (h6 : (w.alloc O).grownBy w1 v.ownBlock) :
    (∃ a n c, v1 = .slice a n c) ∧ w1.cell? ⟨o, 0, none⟩ = some v ∧ w1.frozen? ⟨o, 0, none⟩ = false ∧ St o s stop w0 (w1.setCell ⟨o, 0, none⟩ v1) (xs ++ [k]) := by
  have hlt := lt_of_block h1
  have hsz := h4.size
  have hne : some o ≠ v.ownBlock := fun e => by have := (h2.lt o e.symm).1; omega
  have hb : w1.heap[o]? = some (.cells #[v] 27 (0, 0)) := by
    rw [h6.block o (by simp; omega) hne, Below.heap_alloc w O o hlt, h1]
  refine ⟨?_, cell_of_one hb, free_of_one hb, v1, one_setCell hb, ?_, h3, ?_, hs1, hs2, hs3⟩
  · rcases h5.2 with ⟨e, _⟩ | ⟨g, cap, cur, e, _⟩
    · exact ⟨_, _, _, e⟩
    · exact ⟨_, _, _, e⟩
  · have := ownsRow_setCell_below h5 (a := ⟨o, 0, none⟩) h3 v1
    simpa using this
  · have hs6 := h6.size
    simp at hs6
    refine ⟨h6.os.trans h4.os, h6.tape.trans h4.tape, h6.output.trans h4.output, by simp [World.setCell]; omega, fun b hbl hbo => ?_⟩
    have hne' : b ≠ o := fun e => hbo (by rw [e])
    rw [Below.heap_setCell _ _ _ _ hne', h6.block b (by simp; omega) (fun e => by have := (h2.lt b e.symm).1; omega), Below.heap_alloc w O b (by omega), h4.block b hbl hbo]

/-- kindOf says K at elements of the type T. -/
def KindIs (T : TypeId) (K : ByteArray) : Prop := ∀ (p : Value) (w : World), Calls Tryz.prog 16 #[.iface T p] w fun e w' => e = .returned (.string K) ∧ w = w'

set_option maxHeartbeats 1000000 in
theorem clo_any (T : TypeId) (K : ByteArray) (hK : KindIs T K) (o s : Nat) (stop : ByteArray) (p : Value) (xs : List ByteArray) (w0 w : World) (hs : St o s stop w0 w xs) (hx : xs.length < 5000) (bb : Bool) (hbb : (K.toList == stop.toList) = bb) :
    Calls Tryz.prog 15 #[.iface T p, .pointer (some ⟨o, 0, none⟩), .pointer (some ⟨s, 0, none⟩)] w fun e w' => e = .returned (.bool (!bb)) ∧ St o s stop w0 w' (xs ++ [K]) := by
  obtain ⟨v, h1, h2, h3, h4, hs1, hs2, hs3⟩ := hs
  obtain ⟨i0, hi, hz0, hz1, hz2⟩ := info_parts Tryz.infoString
  have hc : w.cell? ⟨o, 0, none⟩ = some v := cell_of_one h1
  have hfz : w.frozen? ⟨o, 0, none⟩ = false := free_of_one h1
  have hsz := h4.size
  have HK := Lib.hid hK
  clear hK
  go_enter Tryz.func15, Tryz.ntmps15
  go_wp2_with fail
  refine (HK.out p w).mono ?_
  rintro e w1 ⟨rfl, rfl⟩
  go_wp2_with (at_builtin; refine wpList_append_own _ rfl _ _ 27 rfl w0.heap.size 9 i0 (.string ⟨#[]⟩) 1 16 Tryz.underlying27 hi hz0 hz1 hz2 rfl (by decide) _ _ _ rfl (h2.alloc _) ⟨w.heap.size, 0, none⟩ 1 1 [.string K] rfl rfl (cell_one_new _ _ _) (by simp [Value.oneCell']) ?c3 (by omega) (by simp; omega) ?_)
  case c3 => unfold maxLen; omega
  intro v1 w1 h5 h6 _
  obtain ⟨⟨a1, n1, c1, rfl⟩, h7, h8, h9⟩ := St.app h1 h2 h3 h4 hs1 hs2 hs3 h5 h6
  have hstop : (w1.setCell ⟨o, 0, none⟩ (.slice a1 n1 c1)).cell? ⟨s, 0, none⟩ = some (.string stop) := h9.cell hs1 hs2 (cell_of_one hs3)
  have H9 := Lib.hid h9
  clear h1 h2 h3 h4 h5 h6 hc hfz h9 hs1 hs2 hs3
  go_wp2_with fail
  go_ret
  exact ⟨by rw [← hbb]; rfl, H9.out⟩

end Go.Proofs.YtdlhhdhooacogaaGreatDoor

/-
  Trees of Nodes: as plain data, and in the world.
-/
import Derived.Test.YtdlhhdhooacogaaGreatDoorProg
import Derived.WalkKit
import Derived.ProofKit
import Derived.OpenShut
import Derived.ShutString
import Derived.ChangeOld
import Derived.Below
import Derived.Deep.Slices
import Derived.Lib.Hide
namespace Go.Proofs.YtdlhhdhooacogaaGreatDoor
open Go.RowKit

/-- A tree: kind, text, number, kids. -/
inductive NT where
  | mk (kind text : ByteArray) (num : Int) (kids : List NT)

instance : Inhabited NT := ⟨.mk ⟨#[]⟩ ⟨#[]⟩ 0 []⟩

/-- The four cells hold the tree. -/
inductive NV (w : World) : List Value → NT → Prop
  | mk (kind text : ByteArray) (num : Int) (a : Option Addr) (n cap : Nat) (kids : List NT) (css : Nat → List Value)
      (h1 : kind.size ≤ maxLen) (h2 : text.size ≤ maxLen) (h3 : (Lit.int .i64 num).wf = true) (hl : kids.length = n) (hm : n ≤ maxLen) (hc : n ≤ cap)
      (ha : 0 < n → ∃ b off, a = some ⟨b, off, none⟩ ∧ b < w.heap.size ∧ ∀ i, i < n → ∀ j, j < 4 → w.cell? ⟨b, off + i * 4 + j, none⟩ = (css i)[j]?)
      (hk : ∀ i, i < n → NV w (css i) (kids.getD i default)) : NV w [.string kind, .string text, .int .i64 num, .slice a n cap] (.mk kind text num kids)

theorem NV.keep {w w' : World} {cs : List Value} {t : NT} (h : NV w cs t) (hb : Below w.heap.size w w') : NV w' cs t := by
  induction h with
  | mk kind text num a n cap kids css h1 h2 h3 hl hm hcap ha hk ih =>
    refine .mk kind text num a n cap kids css h1 h2 h3 hl hm hcap (fun h0 => ?_) ih
    obtain ⟨b, off, e, hlt, hc⟩ := ha h0
    exact ⟨b, off, e, by have := hb.size; omega, fun i hi j hj => by rw [hb.cell (p := ⟨b, off + i * 4 + j, none⟩) hlt]; exact hc i hi j hj⟩

theorem Tryz.nodeCells : Tryz.prog.cellsOf 24 = 4 := by kernel_rfl
theorem Tryz.strCells : Tryz.prog.cellsOf 9 = 1 := by kernel_rfl
theorem Tryz.intCells : Tryz.prog.cellsOf 3 = 1 := by kernel_rfl
theorem Tryz.kidsCells : Tryz.prog.cellsOf 22 = 1 := by kernel_rfl

set_option maxRecDepth 100000 in
/-- What the argument reads as is a tree. -/
theorem open_node {H : Type} {enc : TypeId × Value → H} {w : World} {base : Nat} {spare : Nat → Bool} {held : Bool} (fuel : Nat) : ∀ (cs : List Value) (x : DataW H × List MemPlace),
    DataW.trod enc Tryz.prog w base spare held fuel 24 cs = some x → ∃ t, NV w cs t := by
  induction fuel using Nat.strongRecOn with
  | _ fuel ih =>
    intro cs x h
    obtain ⟨xs, n, rfl, rfl, hl, hlen, hf⟩ := DataW.trod_struct Tryz.underlying24 h
    rw [Tryz.nodeCells] at hl
    match cs, hl with
    | [c0, c1, c2, c3], _ =>
      match xs, hlen with
      | [y0, y1, y2, y3], _ =>
        have f0 := hf 0 _ rfl
        have f1 := hf 1 _ rfl
        have f2 := hf 2 _ rfl
        have f3 := hf 3 _ rfl
        change DataW.trod enc Tryz.prog w base spare held n 9 (([c0, c1, c2, c3].drop 0).take (Tryz.prog.cellsOf 9)) = some y0 at f0
        change DataW.trod enc Tryz.prog w base spare held n 9 (([c0, c1, c2, c3].drop 1).take (Tryz.prog.cellsOf 9)) = some y1 at f1
        change DataW.trod enc Tryz.prog w base spare held n 3 (([c0, c1, c2, c3].drop 2).take (Tryz.prog.cellsOf 3)) = some y2 at f2
        change DataW.trod enc Tryz.prog w base spare held n 22 (([c0, c1, c2, c3].drop 3).take (Tryz.prog.cellsOf 22)) = some y3 at f3
        rw [Tryz.strCells] at f0 f1
        rw [Tryz.intCells] at f2
        rw [Tryz.kidsCells] at f3
        change DataW.trod enc Tryz.prog w base spare held n 9 [c0] = some y0 at f0
        change DataW.trod enc Tryz.prog w base spare held n 9 [c1] = some y1 at f1
        change DataW.trod enc Tryz.prog w base spare held n 3 [c2] = some y2 at f2
        change DataW.trod enc Tryz.prog w base spare held n 22 [c3] = some y3 at f3
        obtain ⟨s0, e0, _, z0⟩ := DataW.trod_string Tryz.underlying9 f0
        obtain ⟨s1, e1, _, z1⟩ := DataW.trod_string Tryz.underlying9 f1
        obtain ⟨k2, e2, _, z2⟩ := DataW.trod_int Tryz.underlying3 f2
        simp at e0 e1 e2
        subst e0 e1 e2
        rcases DataW.trod_slice Tryz.underlying22 f3 with ⟨e3, _⟩ | ⟨a, len, cap, elems, rest, m, rfl, e3, _, hb, hlc, hcm, hel, hget, _⟩
        · simp at e3
          subst e3
          exact ⟨_, .mk s0 s1 k2 none 0 0 [] (fun _ => []) z0 z1 z2 rfl (by decide) (Nat.le_refl _) (fun h => by omega) (fun i hi => by omega)⟩
        · simp at e3
          subst e3
          rw [Tryz.nodeCells] at hget
          have hex : ∀ i, i < len → ∃ cs' t, w.cells? base (a.add (i * 4)) 4 = some cs' ∧ NV w cs' t := fun i hi => by
            have h1 := hget i hi
            have h2 : elems[i]? = some (elems[i]'(by omega)) := List.getElem?_eq_getElem _
            rw [h2] at h1
            obtain ⟨cs', h3, h4⟩ := Option.bind_eq_some_iff.1 h1
            obtain ⟨t, ht⟩ := ih m (by omega) cs' _ h4
            exact ⟨cs', t, h3, ht⟩
          have hex2 : ∃ (css : Nat → List Value) (ts : Nat → NT), ∀ i, i < len → w.cells? base (a.add (i * 4)) 4 = some (css i) ∧ NV w (css i) (ts i) := by
            refine ⟨fun i => if h : i < len then (hex i h).choose else [], fun i => if h : i < len then (hex i h).choose_spec.choose else default, fun i hi => ?_⟩
            simp only [hi, dif_pos]
            exact (hex i hi).choose_spec.choose_spec
          obtain ⟨css, ts, hcs⟩ := hex2
          refine ⟨_, .mk s0 s1 k2 (some a) len cap ((List.range len).map ts) css z0 z1 z2 (by simp) (by omega) hlc (fun h0 => ?_) (fun i hi => ?_)⟩
          · obtain ⟨b, off, spot⟩ := a
            have hc0 := (World.cells?_some (hcs 0 h0).1).2.2 0 (by decide)
            have hl0 := (World.cells?_some (hcs 0 h0).1).2.1
            have hs0 : ∃ u, (css 0)[0]? = some u := ⟨(css 0)[0]'(by omega), List.getElem?_eq_getElem _⟩
            obtain ⟨u, hu⟩ := hs0
            rw [hu] at hc0
            have hspot : spot = none := by simpa [Addr.add] using World.cell?_spot hc0
            subst hspot
            refine ⟨b, off, rfl, ?_, fun i hi j hj => ?_⟩
            · exact World.block_lt_of_cell? w _ (by simpa [Addr.add] using hc0)
            · have := (World.cells?_some (hcs i hi).1).2.2 j hj
              rw [← this]
              rw [Addr.add_lit, Addr.add_lit]
          · have : ((List.range len).map ts).getD i default = ts i := by simp [List.getD, hi]
            rw [this]
            exact (hcs i hi).2

end Go.Proofs.YtdlhhdhooacogaaGreatDoor

/-
  The function that WalkSigns hands to Traverse, for each kind of element that it can meet: it appends that kind's number to 'out'.
-/
import Derived.Test.YtaimdeohagchiaaRows
import Derived.WalkKit
import Derived.WalkSpells
import Derived.WalkLawsBesides
namespace Go.Proofs.Ytaimdeohagchiaa
open Go.RowKit

theorem Try.info3 : (Try.prog.info? 3).map (fun i => (i.zero, i.size, i.bytes)) = some (some (.int .i64 0), 1, 8) := by kernel_rfl

/-- The state of the walk: the variable 'out' in block o reads as xs; nothing else that was there in w0 has turned. -/
def St (o : Nat) (w0 w : World) (xs : List Int) : Prop :=
  ∃ v, w.heap[o]? = some (.cells #[v] 22 (0, 0)) ∧ w.ownsRow w0.heap.size 3 1 v xs.length (xs.map (Value.int .i64)) ∧ o < w0.heap.size ∧ w0.grownBy w (some o)

theorem St.app {o : Nat} {w0 w w1 : World} {xs : List Int} {v v1 : Value} {O : Obj} {k : Int} (h1 : w.heap[o]? = some (.cells #[v] 22 (0, 0)))
    (h2 : w.ownsRow w0.heap.size 3 1 v xs.length (xs.map (Value.int .i64))) (h3 : o < w0.heap.size) (h4 : w0.grownBy w (some o))
    (h5 : w1.ownsRow w0.heap.size 3 1 v1 (xs.length + 1) (xs.map (Value.int .i64) ++ [.int .i64 k])) (h6 : (w.alloc O).grownBy w1 v.ownBlock) :
    (∃ a n c, v1 = .slice a n c) ∧ w1.cell? ⟨o, 0, none⟩ = some v ∧ w1.frozen? ⟨o, 0, none⟩ = false ∧ St o w0 (w1.setCell ⟨o, 0, none⟩ v1) (xs ++ [k]) := by
  have hlt := lt_of_block h1
  have hsz := h4.size
  have hne : some o ≠ v.ownBlock := fun e => by have := (h2.lt o e.symm).1; omega
  have hb : w1.heap[o]? = some (.cells #[v] 22 (0, 0)) := by
    rw [h6.block o (by simp; omega) hne, Below.heap_alloc w O o hlt, h1]
  refine ⟨?_, cell_of_one hb, free_of_one hb, v1, one_setCell hb, ?_, h3, ?_⟩
  · rcases h5.2 with ⟨e, _⟩ | ⟨g, cap, cur, e, _⟩
    · exact ⟨_, _, _, e⟩
    · exact ⟨_, _, _, e⟩
  · have := ownsRow_setCell_below h5 (a := ⟨o, 0, none⟩) h3 v1
    simpa using this
  · have hs6 := h6.size
    simp at hs6
    refine ⟨h6.os.trans h4.os, h6.tape.trans h4.tape, h6.output.trans h4.output, by simp [World.setCell]; omega, fun b hbl hbo => ?_⟩
    have hne' : b ≠ o := fun e => hbo (by rw [e])
    rw [Below.heap_setCell _ _ _ _ hne', h6.block b (by simp; omega) (fun e => by have := (h2.lt b e.symm).1; omega), Below.heap_alloc w O b (by omega), h4.block b hbl hbo]

theorem one_new (w : World) (k : Int) : ∀ (j : Nat) (u : Value), [Value.int IntKind.i64 k][j]? = some u → (w.alloc (Obj.cells #[Value.int IntKind.i64 k] 3)).cell? ((⟨w.heap.size, 0, none⟩ : Addr).add j) = some u := by
  exact cell_one_new _ _ _

theorem ta29_29 (p : Value) (w : World) : (Instr.typeAssert (.iface 29 p) 26 29 true).run Try.prog w = .ok (.tuple #[p, .bool true]) w := by kernel_rfl

set_option maxHeartbeats 400000 in
theorem clo29 (o : Nat) (p : Value) (xs : List Int) (w0 w : World) (hs : St o w0 w xs) (hx : xs.length < 5000) :
    Calls Try.prog 6 #[.iface 29 p, .pointer (some ⟨o, 0, none⟩)] w fun e w' => e = .returned (.bool true) ∧ St o w0 w' (xs ++ [0]) := by
  obtain ⟨v, h1, h2, h3, h4⟩ := hs
  obtain ⟨i0, hi, hz0, hz1, hz2⟩ := info_parts Try.info3
  have hc : w.cell? ⟨o, 0, none⟩ = some v := cell_of_one h1
  have hfz : w.frozen? ⟨o, 0, none⟩ = false := free_of_one h1
  have t29 := ta29_29
  have hsz := h4.size
  go_enter Try.func6, Try.ntmps6
  go_wp2_with (at_builtin; refine wpList_append_own _ rfl _ _ 22 rfl w0.heap.size 3 i0 (.int .i64 0) 1 8 Try.underlying22 hi hz0 hz1 hz2 rfl (by decide) _ _ _ rfl (h2.alloc _) ⟨w.heap.size, 0, none⟩ 1 1 [.int .i64 0] rfl rfl (one_new w 0) (by simp [Value.oneCell']) ?c3 (by omega) (by simp; omega) ?_)
  case c3 => unfold maxLen; omega
  intro v1 w1 h5 h6 _
  obtain ⟨⟨a1, n1, c1, rfl⟩, h7, h8, h9⟩ := St.app h1 h2 h3 h4 h5 h6
  clear h1 h2 h3 h4 h5 h6 hc hfz
  go_wp2_with fail
  go_ret
  exact ⟨rfl, h9⟩

theorem ta30_29 (p : Value) (w : World) : (Instr.typeAssert (.iface 30 p) 26 29 true).run Try.prog w = .ok (.tuple #[.pointer none, .bool false]) w := by kernel_rfl
theorem ta30_30 (p : Value) (w : World) : (Instr.typeAssert (.iface 30 p) 26 30 true).run Try.prog w = .ok (.tuple #[p, .bool true]) w := by kernel_rfl

set_option maxHeartbeats 400000 in
theorem clo30 (o : Nat) (p : Value) (xs : List Int) (w0 w : World) (hs : St o w0 w xs) (hx : xs.length < 5000) :
    Calls Try.prog 6 #[.iface 30 p, .pointer (some ⟨o, 0, none⟩)] w fun e w' => e = .returned (.bool true) ∧ St o w0 w' (xs ++ [1]) := by
  obtain ⟨v, h1, h2, h3, h4⟩ := hs
  obtain ⟨i0, hi, hz0, hz1, hz2⟩ := info_parts Try.info3
  have hc : w.cell? ⟨o, 0, none⟩ = some v := cell_of_one h1
  have hfz : w.frozen? ⟨o, 0, none⟩ = false := free_of_one h1
  have t29 := ta30_29
  have t30 := ta30_30
  have hsz := h4.size
  go_enter Try.func6, Try.ntmps6
  go_wp2_with (at_builtin; refine wpList_append_own _ rfl _ _ 22 rfl w0.heap.size 3 i0 (.int .i64 0) 1 8 Try.underlying22 hi hz0 hz1 hz2 rfl (by decide) _ _ _ rfl (h2.alloc _) ⟨w.heap.size, 0, none⟩ 1 1 [.int .i64 1] rfl rfl (one_new w 1) (by simp [Value.oneCell']) ?c3 (by omega) (by simp; omega) ?_)
  case c3 => unfold maxLen; omega
  intro v1 w1 h5 h6 _
  obtain ⟨⟨a1, n1, c1, rfl⟩, h7, h8, h9⟩ := St.app h1 h2 h3 h4 h5 h6
  clear h1 h2 h3 h4 h5 h6 hc hfz
  go_wp2_with fail
  go_ret
  exact ⟨rfl, h9⟩

theorem ta31_29 (p : Value) (w : World) : (Instr.typeAssert (.iface 31 p) 26 29 true).run Try.prog w = .ok (.tuple #[.pointer none, .bool false]) w := by kernel_rfl
theorem ta31_30 (p : Value) (w : World) : (Instr.typeAssert (.iface 31 p) 26 30 true).run Try.prog w = .ok (.tuple #[.pointer none, .bool false]) w := by kernel_rfl
theorem ta31_31 (p : Value) (w : World) : (Instr.typeAssert (.iface 31 p) 26 31 true).run Try.prog w = .ok (.tuple #[p, .bool true]) w := by kernel_rfl

set_option maxHeartbeats 400000 in
theorem clo31 (o : Nat) (p : Value) (xs : List Int) (w0 w : World) (hs : St o w0 w xs) (hx : xs.length < 5000) :
    Calls Try.prog 6 #[.iface 31 p, .pointer (some ⟨o, 0, none⟩)] w fun e w' => e = .returned (.bool true) ∧ St o w0 w' (xs ++ [2]) := by
  obtain ⟨v, h1, h2, h3, h4⟩ := hs
  obtain ⟨i0, hi, hz0, hz1, hz2⟩ := info_parts Try.info3
  have hc : w.cell? ⟨o, 0, none⟩ = some v := cell_of_one h1
  have hfz : w.frozen? ⟨o, 0, none⟩ = false := free_of_one h1
  have t29 := ta31_29
  have t30 := ta31_30
  have t31 := ta31_31
  have hsz := h4.size
  go_enter Try.func6, Try.ntmps6
  go_wp2_with (at_builtin; refine wpList_append_own _ rfl _ _ 22 rfl w0.heap.size 3 i0 (.int .i64 0) 1 8 Try.underlying22 hi hz0 hz1 hz2 rfl (by decide) _ _ _ rfl (h2.alloc _) ⟨w.heap.size, 0, none⟩ 1 1 [.int .i64 2] rfl rfl (one_new w 2) (by simp [Value.oneCell']) ?c3 (by omega) (by simp; omega) ?_)
  case c3 => unfold maxLen; omega
  intro v1 w1 h5 h6 _
  obtain ⟨⟨a1, n1, c1, rfl⟩, h7, h8, h9⟩ := St.app h1 h2 h3 h4 h5 h6
  clear h1 h2 h3 h4 h5 h6 hc hfz
  go_wp2_with fail
  go_ret
  exact ⟨rfl, h9⟩

theorem ta38_29 (p : Value) (w : World) : (Instr.typeAssert (.iface 38 p) 26 29 true).run Try.prog w = .ok (.tuple #[.pointer none, .bool false]) w := by kernel_rfl
theorem ta38_30 (p : Value) (w : World) : (Instr.typeAssert (.iface 38 p) 26 30 true).run Try.prog w = .ok (.tuple #[.pointer none, .bool false]) w := by kernel_rfl
theorem ta38_31 (p : Value) (w : World) : (Instr.typeAssert (.iface 38 p) 26 31 true).run Try.prog w = .ok (.tuple #[.pointer none, .bool false]) w := by kernel_rfl

set_option maxHeartbeats 400000 in
theorem clo38 (o : Nat) (p : Value) (xs : List Int) (w0 w : World) (hs : St o w0 w xs) (hx : xs.length < 5000) :
    Calls Try.prog 6 #[.iface 38 p, .pointer (some ⟨o, 0, none⟩)] w fun e w' => e = .returned (.bool true) ∧ St o w0 w' (xs ++ [3]) := by
  obtain ⟨v, h1, h2, h3, h4⟩ := hs
  obtain ⟨i0, hi, hz0, hz1, hz2⟩ := info_parts Try.info3
  have hc : w.cell? ⟨o, 0, none⟩ = some v := cell_of_one h1
  have hfz : w.frozen? ⟨o, 0, none⟩ = false := free_of_one h1
  have t29 := ta38_29
  have t30 := ta38_30
  have t31 := ta38_31
  have hsz := h4.size
  go_enter Try.func6, Try.ntmps6
  go_wp2_with (at_builtin; refine wpList_append_own _ rfl _ _ 22 rfl w0.heap.size 3 i0 (.int .i64 0) 1 8 Try.underlying22 hi hz0 hz1 hz2 rfl (by decide) _ _ _ rfl (h2.alloc _) ⟨w.heap.size, 0, none⟩ 1 1 [.int .i64 3] rfl rfl (one_new w 3) (by simp [Value.oneCell']) ?c3 (by omega) (by simp; omega) ?_)
  case c3 => unfold maxLen; omega
  intro v1 w1 h5 h6 _
  obtain ⟨⟨a1, n1, c1, rfl⟩, h7, h8, h9⟩ := St.app h1 h2 h3 h4 h5 h6
  clear h1 h2 h3 h4 h5 h6 hc hfz
  go_wp2_with fail
  go_ret
  exact ⟨rfl, h9⟩

end Go.Proofs.Ytaimdeohagchiaa

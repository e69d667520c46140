/-
  WalkSigns: the kinds of a chain of elements, the outer one first, and 3 for the type within.
-/
import Derived.Test.YtaimdeohagchiaaC
namespace Go.Proofs.Ytaimdeohagchiaa
open Go.RowKit

/-- What 'WalkSigns' hands back: a new slice that reads as ys; nothing that was there has turned. -/
def Told (ys : List Int) (w : World) (e : Ending) (w' : World) : Prop :=
  ∃ v, e = .returned v ∧ w'.ownsRow w.heap.size 3 1 v ys.length (ys.map (Value.int .i64)) ∧ Below w.heap.size w w'

theorem St.start {w0 : World} {o : Nat} (h : w0.heap[o]? = some (.cells #[.slice none 0 0] 22 (0, 0))) : St o w0 w0 [] :=
  ⟨.slice none 0 0, h, World.ownsRow_nil _ _ _ _, lt_of_block h, World.grownBy.refl _ _⟩

theorem St.told {o : Nat} {w w0 w1 : World} {xs : List Int} (h : St o w0 w1 xs) (hb : Below w.heap.size w w0) (ho : w.heap.size ≤ o) :
    ∃ v, w1.cell? ⟨o, 0, none⟩ = some v ∧ Told xs w (.returned v) w1 := by
  obtain ⟨v, h1, h2, h3, h4⟩ := h
  refine ⟨v, cell_of_one h1, v, rfl, ?_, hb.trans ⟨h4.os, h4.tape, h4.output, h4.size, fun k hk => h4.block k (by have := hb.size; omega) (by simp; omega)⟩⟩
  refine ⟨h2.1, ?_⟩
  rcases h2.2 with h2 | ⟨g, cap, cur, e, hg, r⟩
  · exact Or.inl h2
  · exact Or.inr ⟨g, cap, cur, e, by have := hb.size; omega, r⟩

set_option maxHeartbeats 1000000 in
theorem walkSigns_of (s : ByteArray) (vs : Value) (zs : List Int) (w : World) (hz : zs.length ≤ 1000)
    (hs : Calls Try.prog 5 #[.string s, vs] (w.alloc (.cells #[.slice none 0 0] 22)) (Made w.heap.size zs (w.alloc (.cells #[.slice none 0 0] 22)))) :
    Calls Try.prog 4 #[.string s, vs] w (Told ((zs.map kindOf).reverse ++ [3]) w) := by
  have H := Lib.hid hs
  clear hs
  go_enter Try.func4, Try.ntmps4
  go_wp2_with fail
  refine H.out.mono ?_
  rintro e w1 ⟨T, f, b, rfl, ht, hb⟩
  have e1 := ht.meth.m
  have e2 := ht.meth.c
  have hl : w.heap.size < w1.heap.size := by have := hb.size; simp at this; omega
  have hb0 : Below w.heap.size w w1 := ((Below.refl _ _).alloc (Nat.le_refl _) _).trans (hb.mono (by simp))
  have hbox : w1.heap[w.heap.size]? = some (.cells #[.slice none 0 0] 22 (0, 0)) := by rw [hb.block _ (by simp), heap_alloc_new w _]
  have hst : St w.heap.size w1 w1 [] := St.start hbox
  have HB := Lib.hid hbox
  clear hb hbox
  go_wp2_with fail
  refine (traverse w.heap.size w1 _ T f b [] w1 ht hst (by simp; omega)).mono ?_
  rintro e w2 ⟨rfl, hs2⟩
  obtain ⟨v, hc, v', hv, hown, hbel⟩ := hs2.told hb0 (Nat.le_refl _)
  have hv' : v = v' := by simpa using hv
  subst hv'
  clear hs2 hv ht hst e1 e2 hb0
  go_wp2_with fail
  go_ret
  exact ⟨v, rfl, by simpa using hown, hbel⟩

end Go.Proofs.Ytaimdeohagchiaa

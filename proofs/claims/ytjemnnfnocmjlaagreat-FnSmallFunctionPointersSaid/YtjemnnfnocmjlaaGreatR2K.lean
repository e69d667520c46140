/-
  printOneInner without a list to save into: the last inner type prints itself.
-/
import Derived.Test.YtjemnnfnocmjlaaGreatRK
namespace Go.Proofs.YtjemnnfnocmjlaaGreat
open Go.RowKit

set_option maxRecDepth 100000 in
set_option maxHeartbeats 2000000 in
theorem printOne_any (A T b f : Nat) (w : World) (σ σ1 : PS) (inner inner1 pr : List Value) (h : PX A w σ (inner ++ [.iface T (.pointer (some ⟨b, 0, none⟩))]) pr) (hi : InnerT T f) (hl : inner.length ≤ 100000)
    (hin : ∀ w1, PX A w1 σ inner pr → Below A w w1 →
      Calls Tryz.prog f #[.pointer (some ⟨b, 0, none⟩), .pointer (some ⟨A, 0, none⟩)] w1 fun e w2 => e = .returned (.tuple #[]) ∧ PX A w2 σ1 inner1 pr ∧ Below A w1 w2) :
    Calls Tryz.prog 54 #[.pointer (some ⟨A, 0, none⟩), .pointer none] w fun e w' => e = .returned (.tuple #[]) ∧ PX A w' σ1 inner1 pr ∧ Below A w w' := by
  obtain ⟨a, cap, hc, hown, hp, hpos⟩ := h.row
  obtain ⟨g, rfl, hcap⟩ := hpos (by simp)
  have hlen : (inner ++ [Value.iface T (.pointer (some ⟨b, 0, none⟩))]).length = inner.length + 1 := by simp
  rw [hlen] at hc hcap hown hp
  have hel : w.cell? ⟨g, inner.length, none⟩ = some (.iface T (.pointer (some ⟨b, 0, none⟩))) := by
    rw [hown.cellAt inner.length (by omega)]
    simp
  have f8 := hp.free 8
  obtain ⟨_, _, _, hset, hbset⟩ := PX.set (inner' := inner) hp (own_pop hown) (World.grownBy.refl _ _) (.inl rfl)
  have HSET := Lib.hid hset
  have HBS := Lib.hid hbset
  have HI := Lib.hid hin
  have e1 := hi.ta
  have e2 := hi.m
  have e3 := hi.c
  clear h hp hown hpos hlen hset hbset hin hi
  go_enter Tryz.func54, Tryz.ntmps54
  go_wp2_with fail
  refine (HI.out _ HSET.out HBS.out).mono ?_
  rintro e w2 ⟨rfl, hp2, hb2⟩
  go_wp2_with fail
  go_end0
  exact ⟨rfl, hp2, HBS.out.trans hb2⟩

end Go.Proofs.YtjemnnfnocmjlaaGreat

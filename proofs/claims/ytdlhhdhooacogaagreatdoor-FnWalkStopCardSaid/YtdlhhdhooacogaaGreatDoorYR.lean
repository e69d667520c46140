/-
  Walk: the kinds that Traverse comes to are those of Kinds.
-/
import Derived.Test.YtdlhhdhooacogaaGreatDoorYQ
namespace Go.Proofs.YtdlhhdhooacogaaGreatDoor
open Go.RowKit

theorem St.start {w0 : World} {o s : Nat} {stop : ByteArray} (h : w0.heap[o]? = some (.cells #[.slice none 0 0] 27 (0, 0))) (hs : w0.heap[s]? = some (.cells #[.string stop] 9 (0, 0))) (hne : s ≠ o) : St o s stop w0 w0 [] :=
  ⟨.slice none 0 0, h, World.ownsRow_nil _ _ _ _, lt_of_block h, World.grownBy.refl _ _, lt_of_block hs, hne, hs⟩

theorem St.told {o s : Nat} {stop : ByteArray} {w w0 w1 : World} {xs : List ByteArray} (h : St o s stop w0 w1 xs) (hb : Below w.heap.size w w0) (ho : w.heap.size ≤ o) :
    ∃ v, w1.cell? ⟨o, 0, none⟩ = some v ∧ Told xs w (.returned v) w1 := by
  obtain ⟨v, h1, h2, h3, h4, _⟩ := h
  refine ⟨v, cell_of_one h1, v, rfl, ownsRow_low h2 hb.size, hb.trans ⟨h4.os, h4.tape, h4.output, h4.size, fun k hk => h4.block k (by have := hb.size; omega) (by simp; omega)⟩⟩

set_option maxRecDepth 100000 in
set_option maxHeartbeats 4000000 in
theorem walk_any (d : Nat) (t : NT) (kind text : ByteArray) (num : Int) (a : Option Addr) (n cap : Nat) (stop : ByteArray) (w : World) (h : NV w [.string kind, .string text, .int .i64 num, .slice a n cap] t) (hd : Dep d t) (hg : Good t) (hc : cnt d t ≤ 200) :
    Calls Tryz.prog 8 #[.agg #[.string kind, .string text, .int .i64 num, .slice a n cap], .string stop] w (Told (kindsN stop d t) w) := by
  have hT := treeOf_any d t hd hg hc
  have hlen : (kindsN stop d t).length ≤ 200 := Nat.le_trans (kinds_len stop d t) hc
  have hb3 : Below w.heap.size w (((w.alloc (.cells #[.string kind, .string text, .int .i64 num, .slice a n cap] 24)).alloc (.cells #[.string stop] 9)).alloc (.cells #[.slice none 0 0] 27)) := behind (behind (below_new _ _) (below_new _ _)) (below_new _ _)
  have hS : (((w.alloc (.cells #[.string kind, .string text, .int .i64 num, .slice a n cap] 24)).alloc (.cells #[.string stop] 9)).alloc (.cells #[.slice none 0 0] 27)).heap[w.heap.size + 1]? = some (.cells #[.string stop] 9 (0, 0)) := by
    rw [Below.heap_alloc _ _ _ (by simp)]; exact heap_alloc2_new _ _ _
  have hO : (((w.alloc (.cells #[.string kind, .string text, .int .i64 num, .slice a n cap] 24)).alloc (.cells #[.string stop] 9)).alloc (.cells #[.slice none 0 0] 27)).heap[w.heap.size + 2]? = some (.cells #[.slice none 0 0] 27 (0, 0)) := by
    have e : w.heap.size + 2 = ((w.alloc (.cells #[.string kind, .string text, .int .i64 num, .slice a n cap] 24)).alloc (.cells #[.string stop] 9)).heap.size := by simp
    rw [e]; exact heap_alloc_new _ _
  have HC := Lib.hid (hT _ _ _ _ _ _ _ (h.keep hb3))
  have HB3 := Lib.hid hb3
  have HS := Lib.hid hS
  have HO := Lib.hid hO
  have HL := Lib.hid hlen
  have hmf : ∀ (fn : Fn) (first cap : Array Value) (w : World), (Instr.makeFunc fn first cap).run Tryz.prog w = .ok (.func fn first cap) w := fun _ _ _ _ => rfl
  clear h hd hg hc hT hlen hb3 hS hO
  go_enter Tryz.func8, Tryz.ntmps8
  go_wp2_with fail
  refine HC.out.mono ?_
  rintro e w4 ⟨v, S, rfl, _, hSS, hE, hb4⟩
  generalize (((w.alloc (.cells #[.string kind, .string text, .int .i64 num, .slice a n cap] 24)).alloc (.cells #[.string stop] 9)).alloc (.cells #[.slice none 0 0] 27)) = w3 at *
  have hsz3 : w.heap.size + 2 < w3.heap.size := lt_of_block HO.out
  obtain ⟨T, f, b, rfl, hm, hcall⟩ := hE (w.heap.size + 2) (w.heap.size + 1) stop w4 (fun hk => by have := hSS _ hk; omega) (Nat.le_refl _) (fun _ _ => rfl)
  have hst : St (w.heap.size + 2) (w.heap.size + 1) stop w4 w4 [] := St.start (by rw [hb4.block _ hsz3]; exact HO.out) (by rw [hb4.block _ (by omega)]; exact HS.out) (by omega)
  have HCALL := Lib.hid (hcall w4 [] hst (by simp; exact HL.out))
  have HB4 := Lib.hid (behind HB3.out hb4)
  have e1 := hm.m
  have e2 := hm.c
  clear hSS hE hb4 hcall hst hsz3
  go_wp2_with fail
  refine HCALL.out.mono ?_
  rintro e w5 ⟨rfl, hs5⟩
  obtain ⟨v5, hc5, v', hv, hown, hbel⟩ := hs5.told HB4.out (by omega)
  have hv' : v5 = v' := by simpa using hv
  subst hv'
  have HOWN := Lib.hid hown
  have HBEL := Lib.hid hbel
  clear hs5 hv e1 e2 hown hbel
  go_wp2_with fail
  go_ret
  exact ⟨v5, rfl, by simpa using HOWN.out, HBEL.out⟩

end Go.Proofs.YtdlhhdhooacogaaGreatDoor

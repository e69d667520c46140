/-
  signs: it makes a chain of elements, the last kind of the list outside.
-/
import Derived.Test.YtaimdeohagchiaaB
namespace Go.Proofs.Ytaimdeohagchiaa
open Go.RowKit

/-- The kind that a number stands for. -/
def kindOf (z : Int) : Int := if z = 0 then 0 else if z = 1 then 1 else 2

theorem Tree.mono {B B' o : Nat} {w w' : World} {ks : List Int} {T f b : Nat} (h : Tree B o w ks T f b) (hB : B ≤ B') (hk : ∀ k, k < B → w'.heap[k]? = w.heap[k]?) : Tree B' o w' ks T f b := by
  induction ks generalizing T f b with
  | nil => obtain ⟨h1, h2, h3⟩ := h; exact ⟨h1, by omega, h3⟩
  | cons k ks ih =>
    obtain ⟨h1, h2, h3, T', f', b', hc, ht⟩ := h
    exact ⟨h1, by omega, h3, T', f', b', by rw [World.cell?_of_block (hk b h2), hc], ih ht⟩

/-- One element more. -/
theorem Tree.more {o : Nat} {w : World} {ks : List Int} {T f b T1 f1 : Nat} {k : Int} {S : Nat} (h : Tree w.heap.size o w ks T f b) (ho : o < w.heap.size)
    (hk : (k = 0 ∧ T1 = 29 ∧ f1 = 24) ∨ (k = 1 ∧ T1 = 30 ∧ f1 = 27) ∨ (k = 2 ∧ T1 = 31 ∧ f1 = 30)) :
    Tree (w.alloc (.cells #[.iface T (.pointer (some ⟨b, 0, none⟩))] S)).heap.size o (w.alloc (.cells #[.iface T (.pointer (some ⟨b, 0, none⟩))] S)) (k :: ks) T1 f1 w.heap.size := by
  refine ⟨hk, by simp, by omega, T, f, b, ?_, h.mono (by simp) (fun k hk => Below.heap_alloc w _ k hk)⟩
  unfold World.cell?
  rw [heap_alloc_new w _]
  rfl

set_option maxHeartbeats 400000 in
theorem builtin_any (s : ByteArray) (w : World) :
    Calls Try.prog 7 #[.string s] w fun e w' => e = .returned (.iface 38 (.pointer (some ⟨w.heap.size, 0, none⟩))) ∧ w.alloc (.cells #[.string s] 40) = w' := by
  go_enter Try.func7, Try.ntmps7
  go_wp2
  go_ret
  exact ⟨rfl, rfl⟩

/-- What 'signs' hands back. -/
def Made (o : Nat) (zs : List Int) (w : World) (e : Ending) (w' : World) : Prop :=
  ∃ T f b, e = .returned (.iface T (.pointer (some ⟨b, 0, none⟩))) ∧ Tree w'.heap.size o w' (zs.map kindOf).reverse T f b ∧ Below w.heap.size w w'

set_option maxHeartbeats 1000000 in
theorem signs_some (s : ByteArray) (bl off n cap o : Nat) (zs : List Int) (w : World) (hn : n ≤ 1000) (hzn : zs.length = n) (ho : o < w.heap.size)
    (hbl : bl < w.heap.size) (hcell : ∀ i, i < n → w.cell? ⟨bl, off + i, none⟩ = some (.int .i64 (zs.getD i 0))) :
    Calls Try.prog 5 #[.string s, .slice (some ⟨bl, off, none⟩) n cap] w (Made o zs w) := by
  have HC := Lib.hid hcell
  have HZ := Lib.hid hzn
  clear hcell hzn
  go_enter Try.func5, Try.ntmps5
  go_wp2_with fail
  refine (builtin_any s w).mono ?_
  rintro e w1 ⟨rfl, rfl⟩
  go_wp2_with fail
  go_loopw [5, 12] (fun v i wr => ∃ k : Nat, k ≤ n ∧ i = .int .i64 k ∧ ∃ T f b, v = .iface T (.pointer (some ⟨b, 0, none⟩)) ∧ Tree wr.heap.size o wr ((zs.take k).map kindOf).reverse T f b ∧ Below w.heap.size w wr) (fun _ i _ => n - (intOf i).toNat)
  case atStart =>
    refine ⟨0, Nat.zero_le _, rfl, 38, 33, w.heap.size, rfl, ⟨⟨rfl, rfl⟩, by simp, by omega⟩, (Below.refl _ _).alloc (Nat.le_refl _) _⟩
  case round =>
    obtain ⟨k, hk, rfl, T, f, b, rfl, ht, hbel⟩ := hrel
    have hos : o < wr.heap.size := Nat.lt_of_lt_of_le ho hbel.size
    by_cases hlt : k < n
    · have hc1 : wr.cell? ⟨bl, off + k, none⟩ = some (.int .i64 (zs.getD k 0)) := by rw [hbel.cell (p := ⟨bl, off + k, none⟩) hbl]; exact HC.out k hlt
      have hts : ((zs.take (k + 1)).map kindOf).reverse = kindOf (zs.getD k 0) :: ((zs.take k).map kindOf).reverse := by
        have hl : k < zs.length := by rw [HZ.out]; exact hlt
        rw [List.take_succ_eq_append_getElem hl, List.map_append, List.reverse_append]
        simp [List.getD, hl]
      have HTS := Lib.hid hts
      clear hts
      generalize zs.getD k 0 = z at *
      have fin : ∀ (T1 f1 S : Nat), ((kindOf z = 0 ∧ T1 = 29 ∧ f1 = 24) ∨ (kindOf z = 1 ∧ T1 = 30 ∧ f1 = 27) ∨ (kindOf z = 2 ∧ T1 = 31 ∧ f1 = 30)) →
          ∃ k' : Nat, k' ≤ n ∧ Value.int IntKind.i64 (↑k + 1) = .int .i64 k' ∧ ∃ T' f b', Value.iface T1 (.pointer (some ⟨wr.heap.size, 0, none⟩)) = .iface T' (.pointer (some ⟨b', 0, none⟩)) ∧
            Tree (wr.alloc (.cells #[.iface T (.pointer (some ⟨b, 0, none⟩))] S)).heap.size o (wr.alloc (.cells #[.iface T (.pointer (some ⟨b, 0, none⟩))] S)) ((zs.take k').map kindOf).reverse T' f b' ∧
            Below w.heap.size w (wr.alloc (.cells #[.iface T (.pointer (some ⟨b, 0, none⟩))] S)) := by
        intro T1 f1 S h
        refine ⟨k + 1, by omega, by simp, T1, f1, wr.heap.size, rfl, ?_, hbel.alloc hbel.size _⟩
        rw [HTS.out]
        exact ht.more hos h
      have FIN := Lib.hid fin
      clear fin
      clear ht hos
      by_cases z0 : z = 0
      · subst z0
        go_wp2_with fail
        go_roundw
        case rel => exact FIN.out 29 24 35 (.inl ⟨rfl, rfl, rfl⟩)
        case measure => simp [intOf]; omega
      · have q0 : (z == 0) = false := by simpa using z0
        by_cases z1 : z = 1
        · subst z1
          go_wp2_with fail
          go_roundw
          case rel => exact FIN.out 30 27 36 (.inr (.inl ⟨rfl, rfl, rfl⟩))
          case measure => simp [intOf]; omega
        · have q1 : (z == 1) = false := by simpa using z1
          have Z0 := Lib.hid z0
          have Z1 := Lib.hid z1
          clear z0 z1
          go_wp2_with fail
          go_roundw
          case rel => exact FIN.out 31 30 37 (.inr (.inr ⟨by unfold kindOf; rw [if_neg Z0.out, if_neg Z1.out], rfl, rfl⟩))
          case measure => simp [intOf]; omega
    · have hkn : zs.take k = zs := List.take_of_length_le (by rw [HZ.out]; omega)
      rw [hkn] at ht
      clear hkn
      go_wp2_with fail
      go_ret
      exact ⟨T, f, b, rfl, ht, hbel⟩

set_option maxHeartbeats 1000000 in
theorem signs_none (s : ByteArray) (a : Option Addr) (cap : Nat) (o : Nat) (w : World) (ho : o < w.heap.size) :
    Calls Try.prog 5 #[.string s, .slice a 0 cap] w (Made o [] w) := by
  go_enter Try.func5, Try.ntmps5
  go_wp2_with fail
  refine (builtin_any s w).mono ?_
  rintro e w1 ⟨rfl, rfl⟩
  go_wp2_with fail
  refine wp_loop_rounds 1 ?_
  rw [rounds_succ]
  go_wp2_with fail
  go_ret
  exact ⟨38, 33, w.heap.size, rfl, ⟨⟨rfl, rfl⟩, by simp, by omega⟩, (Below.refl _ _).alloc (Nat.le_refl _) _⟩

end Go.Proofs.Ytaimdeohagchiaa

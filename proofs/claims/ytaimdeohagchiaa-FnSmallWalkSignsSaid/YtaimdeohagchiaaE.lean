/-
  The law FnSmallWalkSigns, walked: true, whatever the input.
-/
import Derived.Test.YtaimdeohagchiaaD
namespace Go.Proofs.Ytaimdeohagchiaa
open Go.RowKit

/-- True; nothing that was there has turned. -/
def Yes (w : World) (e : Ending) (w' : World) : Prop := e = .returned (.bool true) ∧ Below w.heap.size w w'

set_option maxHeartbeats 400000 in
theorem law_big1 (s : ByteArray) (a : Option Addr) (n cap : Nat) (w : World) (hs : s.size ≤ maxLen) (h1 : 2147483647 < s.size) :
    Calls Try.prog 3 #[.string s, .slice a n cap] w (Yes w) := by
  unfold maxLen at hs
  have g : decide ((2147483647 : Int) < (s.size : Int)) = true := by simp; omega
  go_enter Try.func3, Try.ntmps3
  go_wp2_with fail
  go_ret
  exact ⟨rfl, Below.refl _ _⟩

set_option maxHeartbeats 400000 in
theorem law_big2 (s : ByteArray) (a : Option Addr) (n cap : Nat) (w : World) (hs : s.size ≤ 2147483647) (h1 : 1000 < n) (hn : n ≤ maxLen) :
    Calls Try.prog 3 #[.string s, .slice a n cap] w (Yes w) := by
  unfold maxLen at hn
  by_cases h2 : 2147483647 < n
  · go_enter Try.func3, Try.ntmps3
    go_wp2_with fail
    go_ret
    exact ⟨rfl, Below.refl _ _⟩
  · go_enter Try.func3, Try.ntmps3
    go_wp2_with fail
    go_ret
    exact ⟨rfl, Below.refl _ _⟩

theorem told_cell {ys : List Int} {w w1 : World} {v : Value} (h : Told ys w (.returned v) w1) (hy : 0 < ys.length) :
    ∃ g cap, v = .slice (some ⟨g, 0, none⟩) ys.length cap ∧ w.heap.size ≤ g ∧ Below w.heap.size w w1 ∧ ∀ i, i < ys.length → w1.cell? ⟨g, i, none⟩ = some (.int .i64 (ys.getD i 0)) := by
  obtain ⟨v', e, hown, hb⟩ := h
  cases e
  have hown' := hown
  rcases hown.2 with ⟨_, h0⟩ | ⟨g, cap, cur, rfl, hg, _⟩
  · omega
  · refine ⟨g, cap, rfl, hg, hb, fun i hi => ?_⟩
    rw [hown'.cellAt i (by omega)]
    simp [hi]

theorem ys_last (zs : List Int) : ((zs.map kindOf).reverse ++ [3]).getD zs.length 0 = 3 := by simp

theorem ys_at (zs : List Int) (i : Nat) (hi : i < zs.length) : ((zs.map kindOf).reverse ++ [3]).getD (zs.length - 1 - i) 0 = kindOf (zs.getD i 0) := by
  have : zs.length - 1 - (zs.length - 1 - i) = i := by omega
  simp [List.getD, List.getElem?_append, show zs.length - 1 - i < zs.length by omega, this, hi]

set_option maxHeartbeats 1000000 in
theorem law_some (s : ByteArray) (bl off n cap : Nat) (zs : List Int) (w : World) (hs : s.size ≤ 2147483647) (hn : n ≤ 1000) (hzn : zs.length = n)
    (hbl : bl < w.heap.size) (hcell : ∀ i, i < n → w.cell? ⟨bl, off + i, none⟩ = some (.int .i64 (zs.getD i 0))) :
    Calls Try.prog 3 #[.string s, .slice (some ⟨bl, off, none⟩) n cap] w (Yes w) := by
  have c1 := walkSigns_of s (.slice (some ⟨bl, off, none⟩) n cap) zs w (by omega) (signs_some s bl off n cap _ zs _ hn hzn (by simp) (by simp; omega) (fun i hi => by rw [World.cell?_of_block (w := w) (Below.heap_alloc w _ bl hbl)]; exact hcell i hi))
  have HC := Lib.hid hcell
  have HZ := Lib.hid hzn
  have C1 := Lib.hid c1
  clear hcell hzn c1
  go_enter Try.func3, Try.ntmps3
  go_wp2_with fail
  refine C1.out.mono ?_
  rintro e w1 ht
  obtain ⟨v, rfl, _, _⟩ := id ht
  obtain ⟨g, cp, rfl, hg, hb, hy⟩ := told_cell ht (by simp)
  have hlen : ((zs.map kindOf).reverse ++ [3]).length = n + 1 := by simp [HZ.out]
  rw [hlen]
  have hlast : w1.cell? ⟨g, n, none⟩ = some (.int .i64 3) := by
    rw [hy n (by omega), ← HZ.out, ys_last]
  have hat : ∀ i, i < n → w1.cell? ⟨g, n - 1 - i, none⟩ = some (.int .i64 (kindOf (zs.getD i 0))) := fun i hi => by
    have := ys_at zs i (by rw [HZ.out]; exact hi)
    rw [HZ.out] at this
    rw [hy _ (by omega), this]
  have HAT := Lib.hid hat
  have hw1 : ∀ i, i < n → w1.cell? ⟨bl, off + i, none⟩ = some (.int .i64 (zs.getD i 0)) := fun i hi => by
    rw [hb.cell (p := ⟨bl, off + i, none⟩) hbl]; exact HC.out i hi
  have HW := Lib.hid hw1
  clear hlen hy hat hw1 ht
  go_wp2_with fail
  go_loop [38] (fun i => ∃ k : Nat, k ≤ n ∧ i = .int .i64 k) (fun i => n - (intOf i).toNat)
  case atStart => exact ⟨0, Nat.zero_le _, rfl⟩
  case round =>
    obtain ⟨k, hk, rfl⟩ := hrel
    by_cases hlt : k < n
    · have c1 := HW.out k hlt
      have c2 := HAT.out k hlt
      generalize zs.getD k 0 = z at *
      unfold kindOf at c2
      by_cases z0 : z < 0
      · rw [if_neg (by omega), if_neg (by omega)] at c2
        go_wp2_with fail
        go_round
        case rel => exact ⟨k + 1, by omega, by go_num⟩
        case measure => simp [intOf]; omega
      · by_cases z2 : 1 < z
        · rw [if_neg (by omega), if_neg (by omega)] at c2
          go_wp2_with fail
          go_round
          case rel => exact ⟨k + 1, by omega, by go_num⟩
          case measure => simp [intOf]; omega
        · by_cases z1 : z = 0
          · subst z1
            rw [if_pos rfl] at c2
            go_wp2_with fail
            go_round
            case rel => exact ⟨k + 1, by omega, by go_num⟩
            case measure => simp [intOf]; omega
          · obtain rfl : z = 1 := by omega
            rw [if_neg (by omega), if_pos rfl] at c2
            go_wp2_with fail
            go_round
            case rel => exact ⟨k + 1, by omega, by go_num⟩
            case measure => simp [intOf]; omega
    · go_wp2_with fail
      go_ret
      exact ⟨rfl, hb⟩

set_option maxHeartbeats 1000000 in
theorem law_none (s : ByteArray) (a : Option Addr) (cap : Nat) (w : World) (hs : s.size ≤ 2147483647) :
    Calls Try.prog 3 #[.string s, .slice a 0 cap] w (Yes w) := by
  have c1 := walkSigns_of s (.slice a 0 cap) [] w (by simp) (signs_none s a cap _ _ (by simp))
  have C1 := Lib.hid c1
  clear c1
  go_enter Try.func3, Try.ntmps3
  go_wp2_with fail
  refine C1.out.mono ?_
  rintro e w1 ht
  obtain ⟨v, rfl, _, _⟩ := id ht
  obtain ⟨g, cp, rfl, hg, hb, hy⟩ := told_cell ht (by simp)
  have hlast : w1.cell? ⟨g, 0, none⟩ = some (.int .i64 3) := hy 0 (by simp)
  clear hy ht
  simp only [List.map_nil, List.reverse_nil, List.nil_append, List.length_cons, List.length_nil]
  go_wp2_with fail
  refine wp_loop_rounds 1 ?_
  rw [rounds_succ]
  go_wp2_with fail
  go_ret
  exact ⟨rfl, hb⟩

end Go.Proofs.Ytaimdeohagchiaa

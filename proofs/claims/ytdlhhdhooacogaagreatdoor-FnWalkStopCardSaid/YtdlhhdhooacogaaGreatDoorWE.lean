/-
  Ident, Code, OperatorCode: they hand back something.
-/
import Derived.Test.YtdlhhdhooacogaaGreatDoorWF
namespace Go.Proofs.YtdlhhdhooacogaaGreatDoor
open Go.RowKit

set_option maxHeartbeats 4000000 in
theorem ident_any (s : ByteArray) (w : World) (hs : s.size ≤ maxLen) : Calls Tryz.prog 57 #[.string s] w (SaysIf True w) := by
  unfold maxLen at hs
  by_cases hd : 1 ≤ s.size ∧ s.size ≤ 40
  · obtain ⟨hd1, hd2⟩ := hd
    have h0 : 0 < s.size := by omega
    go_enter Tryz.func57, Tryz.ntmps57
    go_wp2_with fail
    all_goals try (go_ret; exact .any (Below.refl _ _))
    all_goals
      refine (hash_any s w).mono ?_
      rintro e w1 ⟨b, rfl, _, hb⟩
      cases b with
      | true =>
        go_wp2_with fail
        go_ret
        exact .any hb
      | false =>
        by_cases h8 : 8 ≤ s.size
        all_goals
          rcases bt ((s.extract 0 8).toList == [95, 71, 76, 79, 66, 65, 76, 95]) with q | q
        all_goals
          go_wp2_with fail
          all_goals try (go_ret; exact .any hb)
          all_goals
            go_loopw [3] (fun i wr => ∃ k : Nat, k ≤ s.size ∧ i = .int .i64 k ∧ Below w.heap.size w wr) (fun i _ => s.size - (intOf i).toNat)
            case atStart => exact ⟨0, by omega, rfl, hb⟩
            case round =>
              obtain ⟨k, hk, rfl, hbw⟩ := hrel
              by_cases hlt : k < s.size
              · have hks2 : (k : Int) < s.size := by omega
                go_wp2_with fail
                refine (letter_any _ _).mono ?_
                rintro e w2 ⟨b, rfl, _, hb2⟩
                have hb3 := behind hbw hb2
                clear hb2 hbw
                cases b with
                | true =>
                  go_wp2_with fail
                  go_roundw
                  case rel => exact ⟨k + 1, by omega, by go_num, hb3⟩
                  case measure => simp [intOf]; omega
                | false =>
                  go_wp2_with fail
                  go_ret
                  exact .any hb3
              · go_wp2_with fail
                go_ret
                exact .any hbw
  · go_enter Tryz.func57, Tryz.ntmps57
    go_wp2_with fail
    all_goals (go_ret; exact .any (Below.refl _ _))

/-- The two tables hold strings. -/
structure Tabs (w : World) : Prop where
  b0 : 0 < w.heap.size
  b1 : 1 < w.heap.size
  t0 : ∀ i, i < 56 → ∃ s, w.cell? ⟨0, i, none⟩ = some (.string s)
  t1 : ∀ i, i < 84 → ∃ s, w.cell? ⟨1, i, none⟩ = some (.string s)

theorem Tabs.keep {w w' : World} (h : Tabs w) (hb : Below w.heap.size w w') : Tabs w' :=
  ⟨by have := h.b0; have := hb.size; omega, by have := h.b1; have := hb.size; omega,
    fun i hi => by obtain ⟨s, e⟩ := h.t0 i hi; exact ⟨s, by rw [hb.cell (p := ⟨0, i, none⟩) h.b0]; exact e⟩,
    fun i hi => by obtain ⟨s, e⟩ := h.t1 i hi; exact ⟨s, by rw [hb.cell (p := ⟨1, i, none⟩) h.b1]; exact e⟩⟩

/-- It hands back some text; what was there stands. -/
def SaysS (w : World) (e : Ending) (w' : World) : Prop := ∃ s, e = .returned (.string s) ∧ Below w.heap.size w w'

set_option maxHeartbeats 4000000 in
theorem code_any (s : ByteArray) (w : World) (ht : Tabs w) : Calls Tryz.prog 49 #[.string s] w (SaysS w) := by
  have HT := Lib.hid ht
  clear ht
  go_enter Tryz.func49, Tryz.ntmps49
  go_wp2_with fail
  go_loop [3] (fun i => ∃ k : Nat, k ≤ 28 ∧ i = .int .i64 (2 * k)) (fun i => 56 - (intOf i).toNat)
  case atStart => exact ⟨0, by omega, rfl⟩
  case round =>
    obtain ⟨k, hk, rfl⟩ := hrel
    by_cases hlt : k < 28
    · obtain ⟨s0, g0⟩ := HT.out.t0 (2 * k) (by omega)
      obtain ⟨s1, g1⟩ := HT.out.t0 (2 * k + 1) (by omega)
      rcases bt (s1.toList == s.toList) with q | q
      · go_wp2_with fail
        go_ret
        exact ⟨_, rfl, Below.refl _ _⟩
      · go_wp2_with fail
        exact ⟨⟨k + 1, by omega, by go_num⟩, by simp [intOf]; omega⟩
    · obtain rfl : k = 28 := by omega
      go_wp2_with fail
      go_ret
      exact ⟨_, rfl, Below.refl _ _⟩

set_option maxHeartbeats 4000000 in
theorem opcode_any (s : ByteArray) (w : World) (ht : Tabs w) : Calls Tryz.prog 59 #[.string s] w (SaysS w) := by
  have HT := Lib.hid ht
  clear ht
  go_enter Tryz.func59, Tryz.ntmps59
  go_wp2_with fail
  go_loop [3] (fun i => ∃ k : Nat, k ≤ 42 ∧ i = .int .i64 (2 * k)) (fun i => 84 - (intOf i).toNat)
  case atStart => exact ⟨0, by omega, rfl⟩
  case round =>
    obtain ⟨k, hk, rfl⟩ := hrel
    by_cases hlt : k < 42
    · obtain ⟨s0, g0⟩ := HT.out.t1 (2 * k) (by omega)
      obtain ⟨s1, g1⟩ := HT.out.t1 (2 * k + 1) (by omega)
      rcases bt (s1.toList == s.toList) with q | q
      · go_wp2_with fail
        go_ret
        exact ⟨_, rfl, Below.refl _ _⟩
      · go_wp2_with fail
        exact ⟨⟨k + 1, by omega, by go_num⟩, by simp [intOf]; omega⟩
    · obtain rfl : k = 42 := by omega
      go_wp2_with fail
      go_ret
      exact ⟨_, rfl, Below.refl _ _⟩

end Go.Proofs.YtdlhhdhooacogaaGreatDoor

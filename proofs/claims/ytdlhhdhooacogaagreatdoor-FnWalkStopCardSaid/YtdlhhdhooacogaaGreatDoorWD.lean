/-
  Predicates on texts: they hand back some bool.
-/
import Derived.Test.YtdlhhdhooacogaaGreatDoorWC
namespace Go.Proofs.YtdlhhdhooacogaaGreatDoor
open Go.RowKit

/-- It hands back some bool b; where it is true, P; what was there stands. -/
def SaysIf (P : Prop) (w : World) (e : Ending) (w' : World) : Prop := ∃ b, e = .returned (.bool b) ∧ (b = true → P) ∧ Below w.heap.size w w'

set_option maxHeartbeats 1000000 in
theorem letter_any (c : UInt8) (w : World) : Calls Tryz.prog 63 #[.int .u8 (c.toNat : Int)] w (SaysIf True w) := by
  go_enter Tryz.func63, Tryz.ntmps63
  go_wp2_with fail
  all_goals (go_ret; exact ⟨_, rfl, fun _ => trivial, Below.refl _ _⟩)

set_option maxHeartbeats 2000000 in
theorem hash_any (s : ByteArray) (w : World) : Calls Tryz.prog 62 #[.string s] w (SaysIf True w) := by
  by_cases h17 : s.size = 17
  · go_enter Tryz.func62, Tryz.ntmps62
    go_wp2_with fail
    all_goals try (go_ret; exact ⟨_, rfl, fun _ => trivial, Below.refl _ _⟩)
    go_loop [3] (fun i => ∃ k : Nat, k ≤ 17 ∧ i = .int .i64 k) (fun i => 17 - (intOf i).toNat)
    case atStart => exact ⟨1, by decide, rfl⟩
    case round =>
      obtain ⟨k, hk, rfl⟩ := hrel
      by_cases hlt : k < 17
      · have hks : k < s.size := by omega
        have hks2 : (k : Int) < s.size := by omega
        go_wp2_with fail
        all_goals first
          | (go_ret; exact ⟨_, rfl, fun _ => trivial, Below.refl _ _⟩)
          | exact ⟨⟨k + 1, by omega, by omega⟩, by simp [intOf]; omega⟩
      · go_wp2_with fail
        go_ret
        exact ⟨_, rfl, fun _ => trivial, Below.refl _ _⟩
  · go_enter Tryz.func62, Tryz.ntmps62
    go_wp2_with fail
    all_goals (go_ret; exact ⟨_, rfl, fun _ => trivial, Below.refl _ _⟩)

set_option maxHeartbeats 2000000 in
theorem digits_any (s : ByteArray) (w : World) (hs : s.size ≤ maxLen) : Calls Tryz.prog 61 #[.string s] w (SaysIf True w) := by
  unfold maxLen at hs
  by_cases hd : 1 ≤ s.size ∧ s.size ≤ 9
  · obtain ⟨hd1, hd2⟩ := hd
    go_enter Tryz.func61, Tryz.ntmps61
    go_wp2_with fail
    all_goals try (go_ret; exact ⟨_, rfl, fun _ => trivial, Below.refl _ _⟩)
    all_goals
      go_loop [3] (fun i => ∃ k : Nat, k ≤ s.size ∧ i = .int .i64 k) (fun i => s.size - (intOf i).toNat)
      case atStart => exact ⟨0, by omega, rfl⟩
      case round =>
        obtain ⟨k, hk, rfl⟩ := hrel
        by_cases hlt : k < s.size
        · have hks2 : (k : Int) < s.size := by omega
          go_wp2_with fail
          all_goals first
            | (go_ret; exact ⟨_, rfl, fun _ => trivial, Below.refl _ _⟩)
            | (go_round <;> first | exact ⟨k + 1, by omega, by go_num⟩ | (simp [intOf]; omega))
        · go_wp2_with fail
          go_ret
          exact ⟨_, rfl, fun _ => trivial, Below.refl _ _⟩
  · go_enter Tryz.func61, Tryz.ntmps61
    go_wp2_with fail
    all_goals (go_ret; exact ⟨_, rfl, fun _ => trivial, Below.refl _ _⟩)

end Go.Proofs.YtdlhhdhooacogaaGreatDoor

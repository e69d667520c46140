/-
  The small predicates on trees, each by its plain twin.
-/
import Derived.Test.YtdlhhdhooacogaaGreatDoorWA
namespace Go.Proofs.YtdlhhdhooacogaaGreatDoor
open Go.RowKit

/-- A struct Node by value. -/
def nodeV (kind text : ByteArray) (num : Int) (a : Option Addr) (n cap : Nat) : Value := .agg #[.string kind, .string text, .int .i64 num, .slice a n cap]

/-- It hands back b; what was there stands. -/
def Says (b : Bool) (w : World) (e : Ending) (w' : World) : Prop := e = .returned (.bool b) ∧ Below w.heap.size w w'

set_option maxHeartbeats 1000000 in
theorem fits2_any (kind text : ByteArray) (num : Int) (a : Option Addr) (n cap : Nat) (w : World) (h1 : kind.size ≤ maxLen) (h2 : text.size ≤ maxLen) (h3 : n ≤ maxLen) :
    Calls Tryz.prog 4 #[.agg #[.string kind, .string text, .int .i64 num, .slice a n cap]] w (Says (decide (kind.size ≤ 2147483647) && decide (text.size ≤ 2147483647) && decide (n ≤ 2147483647)) w) := by
  unfold maxLen at h1 h2 h3
  go_enter Tryz.func4, Tryz.ntmps4
  go_wp2_with fail
  all_goals
    go_ret
    refine ⟨?_, (Below.refl _ _).alloc (Nat.le_refl _) _⟩
    refine congrArg (fun b => Ending.returned (.bool b)) ?_
    simp
    omega

end Go.Proofs.YtdlhhdhooacogaaGreatDoor

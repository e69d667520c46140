/-
  kindOf of an element, by its type (the other kinds).
-/
import Derived.Test.YtdlhhdhooacogaaGreatDoorWG
namespace Go.Proofs.YtdlhhdhooacogaaGreatDoor
open Go.RowKit

set_option maxHeartbeats 4000000

theorem kindMore_UnnamedType (p : Value) (w : World) : Calls Tryz.prog 33 #[.iface 125 p] w fun e w' => e = .returned (.string ⟨#[85, 110, 110, 97, 109, 101, 100, 84, 121, 112, 101]⟩) ∧ w = w' := by
  have q0 : ∀ (p : Value) (w : World), (Instr.typeAssert (.iface 125 p) 32 94 true).run Tryz.prog w = .ok (.tuple #[.pointer none, .bool false]) w := fun _ _ => by kernel_rfl
  have q1 : ∀ (p : Value) (w : World), (Instr.typeAssert (.iface 125 p) 32 97 true).run Tryz.prog w = .ok (.tuple #[.pointer none, .bool false]) w := fun _ _ => by kernel_rfl
  have q2 : ∀ (p : Value) (w : World), (Instr.typeAssert (.iface 125 p) 32 100 true).run Tryz.prog w = .ok (.tuple #[.pointer none, .bool false]) w := fun _ _ => by kernel_rfl
  have q3 : ∀ (p : Value) (w : World), (Instr.typeAssert (.iface 125 p) 32 103 true).run Tryz.prog w = .ok (.tuple #[.pointer none, .bool false]) w := fun _ _ => by kernel_rfl
  have q4 : ∀ (p : Value) (w : World), (Instr.typeAssert (.iface 125 p) 32 106 true).run Tryz.prog w = .ok (.tuple #[.pointer none, .bool false]) w := fun _ _ => by kernel_rfl
  have q5 : ∀ (p : Value) (w : World), (Instr.typeAssert (.iface 125 p) 32 109 true).run Tryz.prog w = .ok (.tuple #[.pointer none, .bool false]) w := fun _ _ => by kernel_rfl
  have q6 : ∀ (p : Value) (w : World), (Instr.typeAssert (.iface 125 p) 32 112 true).run Tryz.prog w = .ok (.tuple #[.pointer none, .bool false]) w := fun _ _ => by kernel_rfl
  have q7 : ∀ (p : Value) (w : World), (Instr.typeAssert (.iface 125 p) 32 115 true).run Tryz.prog w = .ok (.tuple #[.pointer none, .bool false]) w := fun _ _ => by kernel_rfl
  have q8 : ∀ (p : Value) (w : World), (Instr.typeAssert (.iface 125 p) 32 119 true).run Tryz.prog w = .ok (.tuple #[.pointer none, .bool false]) w := fun _ _ => by kernel_rfl
  have q9 : ∀ (p : Value) (w : World), (Instr.typeAssert (.iface 125 p) 32 122 true).run Tryz.prog w = .ok (.tuple #[.pointer none, .bool false]) w := fun _ _ => by kernel_rfl
  have qy : ∀ (p : Value) (w : World), (Instr.typeAssert (.iface 125 p) 32 125 true).run Tryz.prog w = .ok (.tuple #[p, .bool true]) w := fun _ _ => by kernel_rfl
  go_enter Tryz.func33, Tryz.ntmps33
  go_wp2_with fail
  go_ret
  exact ⟨rfl, rfl⟩

theorem kindOf_UnnamedType (p : Value) (w : World) : Calls Tryz.prog 16 #[.iface 125 p] w fun e w' => e = .returned (.string ⟨#[85, 110, 110, 97, 109, 101, 100, 84, 121, 112, 101]⟩) ∧ w = w' := by
  have q0 : ∀ (p : Value) (w : World), (Instr.typeAssert (.iface 125 p) 32 40 true).run Tryz.prog w = .ok (.tuple #[.pointer none, .bool false]) w := fun _ _ => by kernel_rfl
  have q1 : ∀ (p : Value) (w : World), (Instr.typeAssert (.iface 125 p) 32 43 true).run Tryz.prog w = .ok (.tuple #[.pointer none, .bool false]) w := fun _ _ => by kernel_rfl
  have q2 : ∀ (p : Value) (w : World), (Instr.typeAssert (.iface 125 p) 32 45 true).run Tryz.prog w = .ok (.tuple #[.pointer none, .bool false]) w := fun _ _ => by kernel_rfl
  have q3 : ∀ (p : Value) (w : World), (Instr.typeAssert (.iface 125 p) 32 49 true).run Tryz.prog w = .ok (.tuple #[.pointer none, .bool false]) w := fun _ _ => by kernel_rfl
  have q4 : ∀ (p : Value) (w : World), (Instr.typeAssert (.iface 125 p) 32 53 true).run Tryz.prog w = .ok (.tuple #[.pointer none, .bool false]) w := fun _ _ => by kernel_rfl
  have q5 : ∀ (p : Value) (w : World), (Instr.typeAssert (.iface 125 p) 32 56 true).run Tryz.prog w = .ok (.tuple #[.pointer none, .bool false]) w := fun _ _ => by kernel_rfl
  have q6 : ∀ (p : Value) (w : World), (Instr.typeAssert (.iface 125 p) 32 59 true).run Tryz.prog w = .ok (.tuple #[.pointer none, .bool false]) w := fun _ _ => by kernel_rfl
  have q7 : ∀ (p : Value) (w : World), (Instr.typeAssert (.iface 125 p) 32 64 true).run Tryz.prog w = .ok (.tuple #[.pointer none, .bool false]) w := fun _ _ => by kernel_rfl
  have q8 : ∀ (p : Value) (w : World), (Instr.typeAssert (.iface 125 p) 32 67 true).run Tryz.prog w = .ok (.tuple #[.pointer none, .bool false]) w := fun _ _ => by kernel_rfl
  have q9 : ∀ (p : Value) (w : World), (Instr.typeAssert (.iface 125 p) 32 70 true).run Tryz.prog w = .ok (.tuple #[.pointer none, .bool false]) w := fun _ _ => by kernel_rfl
  have q10 : ∀ (p : Value) (w : World), (Instr.typeAssert (.iface 125 p) 32 73 true).run Tryz.prog w = .ok (.tuple #[.pointer none, .bool false]) w := fun _ _ => by kernel_rfl
  have q11 : ∀ (p : Value) (w : World), (Instr.typeAssert (.iface 125 p) 32 75 true).run Tryz.prog w = .ok (.tuple #[.pointer none, .bool false]) w := fun _ _ => by kernel_rfl
  have q12 : ∀ (p : Value) (w : World), (Instr.typeAssert (.iface 125 p) 32 77 true).run Tryz.prog w = .ok (.tuple #[.pointer none, .bool false]) w := fun _ _ => by kernel_rfl
  have q13 : ∀ (p : Value) (w : World), (Instr.typeAssert (.iface 125 p) 32 79 true).run Tryz.prog w = .ok (.tuple #[.pointer none, .bool false]) w := fun _ _ => by kernel_rfl
  have q14 : ∀ (p : Value) (w : World), (Instr.typeAssert (.iface 125 p) 32 81 true).run Tryz.prog w = .ok (.tuple #[.pointer none, .bool false]) w := fun _ _ => by kernel_rfl
  have q15 : ∀ (p : Value) (w : World), (Instr.typeAssert (.iface 125 p) 32 84 true).run Tryz.prog w = .ok (.tuple #[.pointer none, .bool false]) w := fun _ _ => by kernel_rfl
  have q16 : ∀ (p : Value) (w : World), (Instr.typeAssert (.iface 125 p) 32 87 true).run Tryz.prog w = .ok (.tuple #[.pointer none, .bool false]) w := fun _ _ => by kernel_rfl
  have q17 : ∀ (p : Value) (w : World), (Instr.typeAssert (.iface 125 p) 32 90 true).run Tryz.prog w = .ok (.tuple #[.pointer none, .bool false]) w := fun _ _ => by kernel_rfl
  go_enter Tryz.func16, Tryz.ntmps16
  go_wp2_with fail
  refine (kindMore_UnnamedType p w).mono ?_
  rintro e w1 ⟨rfl, rfl⟩
  go_wp2_with fail
  go_ret
  exact ⟨rfl, rfl⟩

theorem kindMore_Cast (p : Value) (w : World) : Calls Tryz.prog 33 #[.iface 140 p] w fun e w' => e = .returned (.string ⟨#[67, 97, 115, 116]⟩) ∧ w = w' := by
  have q0 : ∀ (p : Value) (w : World), (Instr.typeAssert (.iface 140 p) 32 94 true).run Tryz.prog w = .ok (.tuple #[.pointer none, .bool false]) w := fun _ _ => by kernel_rfl
  have q1 : ∀ (p : Value) (w : World), (Instr.typeAssert (.iface 140 p) 32 97 true).run Tryz.prog w = .ok (.tuple #[.pointer none, .bool false]) w := fun _ _ => by kernel_rfl
  have q2 : ∀ (p : Value) (w : World), (Instr.typeAssert (.iface 140 p) 32 100 true).run Tryz.prog w = .ok (.tuple #[.pointer none, .bool false]) w := fun _ _ => by kernel_rfl
  have q3 : ∀ (p : Value) (w : World), (Instr.typeAssert (.iface 140 p) 32 103 true).run Tryz.prog w = .ok (.tuple #[.pointer none, .bool false]) w := fun _ _ => by kernel_rfl
  have q4 : ∀ (p : Value) (w : World), (Instr.typeAssert (.iface 140 p) 32 106 true).run Tryz.prog w = .ok (.tuple #[.pointer none, .bool false]) w := fun _ _ => by kernel_rfl
  have q5 : ∀ (p : Value) (w : World), (Instr.typeAssert (.iface 140 p) 32 109 true).run Tryz.prog w = .ok (.tuple #[.pointer none, .bool false]) w := fun _ _ => by kernel_rfl
  have q6 : ∀ (p : Value) (w : World), (Instr.typeAssert (.iface 140 p) 32 112 true).run Tryz.prog w = .ok (.tuple #[.pointer none, .bool false]) w := fun _ _ => by kernel_rfl
  have q7 : ∀ (p : Value) (w : World), (Instr.typeAssert (.iface 140 p) 32 115 true).run Tryz.prog w = .ok (.tuple #[.pointer none, .bool false]) w := fun _ _ => by kernel_rfl
  have q8 : ∀ (p : Value) (w : World), (Instr.typeAssert (.iface 140 p) 32 119 true).run Tryz.prog w = .ok (.tuple #[.pointer none, .bool false]) w := fun _ _ => by kernel_rfl
  have q9 : ∀ (p : Value) (w : World), (Instr.typeAssert (.iface 140 p) 32 122 true).run Tryz.prog w = .ok (.tuple #[.pointer none, .bool false]) w := fun _ _ => by kernel_rfl
  have q10 : ∀ (p : Value) (w : World), (Instr.typeAssert (.iface 140 p) 32 125 true).run Tryz.prog w = .ok (.tuple #[.pointer none, .bool false]) w := fun _ _ => by kernel_rfl
  have q11 : ∀ (p : Value) (w : World), (Instr.typeAssert (.iface 140 p) 32 128 true).run Tryz.prog w = .ok (.tuple #[.pointer none, .bool false]) w := fun _ _ => by kernel_rfl
  have q12 : ∀ (p : Value) (w : World), (Instr.typeAssert (.iface 140 p) 32 131 true).run Tryz.prog w = .ok (.tuple #[.pointer none, .bool false]) w := fun _ _ => by kernel_rfl
  have q13 : ∀ (p : Value) (w : World), (Instr.typeAssert (.iface 140 p) 32 134 true).run Tryz.prog w = .ok (.tuple #[.pointer none, .bool false]) w := fun _ _ => by kernel_rfl
  have q14 : ∀ (p : Value) (w : World), (Instr.typeAssert (.iface 140 p) 32 137 true).run Tryz.prog w = .ok (.tuple #[.pointer none, .bool false]) w := fun _ _ => by kernel_rfl
  have qy : ∀ (p : Value) (w : World), (Instr.typeAssert (.iface 140 p) 32 140 true).run Tryz.prog w = .ok (.tuple #[p, .bool true]) w := fun _ _ => by kernel_rfl
  go_enter Tryz.func33, Tryz.ntmps33
  go_wp2_with fail
  go_ret
  exact ⟨rfl, rfl⟩

theorem kindOf_Cast (p : Value) (w : World) : Calls Tryz.prog 16 #[.iface 140 p] w fun e w' => e = .returned (.string ⟨#[67, 97, 115, 116]⟩) ∧ w = w' := by
  have q0 : ∀ (p : Value) (w : World), (Instr.typeAssert (.iface 140 p) 32 40 true).run Tryz.prog w = .ok (.tuple #[.pointer none, .bool false]) w := fun _ _ => by kernel_rfl
  have q1 : ∀ (p : Value) (w : World), (Instr.typeAssert (.iface 140 p) 32 43 true).run Tryz.prog w = .ok (.tuple #[.pointer none, .bool false]) w := fun _ _ => by kernel_rfl
  have q2 : ∀ (p : Value) (w : World), (Instr.typeAssert (.iface 140 p) 32 45 true).run Tryz.prog w = .ok (.tuple #[.pointer none, .bool false]) w := fun _ _ => by kernel_rfl
  have q3 : ∀ (p : Value) (w : World), (Instr.typeAssert (.iface 140 p) 32 49 true).run Tryz.prog w = .ok (.tuple #[.pointer none, .bool false]) w := fun _ _ => by kernel_rfl
  have q4 : ∀ (p : Value) (w : World), (Instr.typeAssert (.iface 140 p) 32 53 true).run Tryz.prog w = .ok (.tuple #[.pointer none, .bool false]) w := fun _ _ => by kernel_rfl
  have q5 : ∀ (p : Value) (w : World), (Instr.typeAssert (.iface 140 p) 32 56 true).run Tryz.prog w = .ok (.tuple #[.pointer none, .bool false]) w := fun _ _ => by kernel_rfl
  have q6 : ∀ (p : Value) (w : World), (Instr.typeAssert (.iface 140 p) 32 59 true).run Tryz.prog w = .ok (.tuple #[.pointer none, .bool false]) w := fun _ _ => by kernel_rfl
  have q7 : ∀ (p : Value) (w : World), (Instr.typeAssert (.iface 140 p) 32 64 true).run Tryz.prog w = .ok (.tuple #[.pointer none, .bool false]) w := fun _ _ => by kernel_rfl
  have q8 : ∀ (p : Value) (w : World), (Instr.typeAssert (.iface 140 p) 32 67 true).run Tryz.prog w = .ok (.tuple #[.pointer none, .bool false]) w := fun _ _ => by kernel_rfl
  have q9 : ∀ (p : Value) (w : World), (Instr.typeAssert (.iface 140 p) 32 70 true).run Tryz.prog w = .ok (.tuple #[.pointer none, .bool false]) w := fun _ _ => by kernel_rfl
  have q10 : ∀ (p : Value) (w : World), (Instr.typeAssert (.iface 140 p) 32 73 true).run Tryz.prog w = .ok (.tuple #[.pointer none, .bool false]) w := fun _ _ => by kernel_rfl
  have q11 : ∀ (p : Value) (w : World), (Instr.typeAssert (.iface 140 p) 32 75 true).run Tryz.prog w = .ok (.tuple #[.pointer none, .bool false]) w := fun _ _ => by kernel_rfl
  have q12 : ∀ (p : Value) (w : World), (Instr.typeAssert (.iface 140 p) 32 77 true).run Tryz.prog w = .ok (.tuple #[.pointer none, .bool false]) w := fun _ _ => by kernel_rfl
  have q13 : ∀ (p : Value) (w : World), (Instr.typeAssert (.iface 140 p) 32 79 true).run Tryz.prog w = .ok (.tuple #[.pointer none, .bool false]) w := fun _ _ => by kernel_rfl
  have q14 : ∀ (p : Value) (w : World), (Instr.typeAssert (.iface 140 p) 32 81 true).run Tryz.prog w = .ok (.tuple #[.pointer none, .bool false]) w := fun _ _ => by kernel_rfl
  have q15 : ∀ (p : Value) (w : World), (Instr.typeAssert (.iface 140 p) 32 84 true).run Tryz.prog w = .ok (.tuple #[.pointer none, .bool false]) w := fun _ _ => by kernel_rfl
  have q16 : ∀ (p : Value) (w : World), (Instr.typeAssert (.iface 140 p) 32 87 true).run Tryz.prog w = .ok (.tuple #[.pointer none, .bool false]) w := fun _ _ => by kernel_rfl
  have q17 : ∀ (p : Value) (w : World), (Instr.typeAssert (.iface 140 p) 32 90 true).run Tryz.prog w = .ok (.tuple #[.pointer none, .bool false]) w := fun _ _ => by kernel_rfl
  go_enter Tryz.func16, Tryz.ntmps16
  go_wp2_with fail
  refine (kindMore_Cast p w).mono ?_
  rintro e w1 ⟨rfl, rfl⟩
  go_wp2_with fail
  go_ret
  exact ⟨rfl, rfl⟩

theorem kindMore_Literal (p : Value) (w : World) : Calls Tryz.prog 33 #[.iface 112 p] w fun e w' => e = .returned (.string ⟨#[76, 105, 116, 101, 114, 97, 108]⟩) ∧ w = w' := by
  have q0 : ∀ (p : Value) (w : World), (Instr.typeAssert (.iface 112 p) 32 94 true).run Tryz.prog w = .ok (.tuple #[.pointer none, .bool false]) w := fun _ _ => by kernel_rfl
  have q1 : ∀ (p : Value) (w : World), (Instr.typeAssert (.iface 112 p) 32 97 true).run Tryz.prog w = .ok (.tuple #[.pointer none, .bool false]) w := fun _ _ => by kernel_rfl
  have q2 : ∀ (p : Value) (w : World), (Instr.typeAssert (.iface 112 p) 32 100 true).run Tryz.prog w = .ok (.tuple #[.pointer none, .bool false]) w := fun _ _ => by kernel_rfl
  have q3 : ∀ (p : Value) (w : World), (Instr.typeAssert (.iface 112 p) 32 103 true).run Tryz.prog w = .ok (.tuple #[.pointer none, .bool false]) w := fun _ _ => by kernel_rfl
  have q4 : ∀ (p : Value) (w : World), (Instr.typeAssert (.iface 112 p) 32 106 true).run Tryz.prog w = .ok (.tuple #[.pointer none, .bool false]) w := fun _ _ => by kernel_rfl
  have q5 : ∀ (p : Value) (w : World), (Instr.typeAssert (.iface 112 p) 32 109 true).run Tryz.prog w = .ok (.tuple #[.pointer none, .bool false]) w := fun _ _ => by kernel_rfl
  have qy : ∀ (p : Value) (w : World), (Instr.typeAssert (.iface 112 p) 32 112 true).run Tryz.prog w = .ok (.tuple #[p, .bool true]) w := fun _ _ => by kernel_rfl
  go_enter Tryz.func33, Tryz.ntmps33
  go_wp2_with fail
  go_ret
  exact ⟨rfl, rfl⟩

theorem kindOf_Literal (p : Value) (w : World) : Calls Tryz.prog 16 #[.iface 112 p] w fun e w' => e = .returned (.string ⟨#[76, 105, 116, 101, 114, 97, 108]⟩) ∧ w = w' := by
  have q0 : ∀ (p : Value) (w : World), (Instr.typeAssert (.iface 112 p) 32 40 true).run Tryz.prog w = .ok (.tuple #[.pointer none, .bool false]) w := fun _ _ => by kernel_rfl
  have q1 : ∀ (p : Value) (w : World), (Instr.typeAssert (.iface 112 p) 32 43 true).run Tryz.prog w = .ok (.tuple #[.pointer none, .bool false]) w := fun _ _ => by kernel_rfl
  have q2 : ∀ (p : Value) (w : World), (Instr.typeAssert (.iface 112 p) 32 45 true).run Tryz.prog w = .ok (.tuple #[.pointer none, .bool false]) w := fun _ _ => by kernel_rfl
  have q3 : ∀ (p : Value) (w : World), (Instr.typeAssert (.iface 112 p) 32 49 true).run Tryz.prog w = .ok (.tuple #[.pointer none, .bool false]) w := fun _ _ => by kernel_rfl
  have q4 : ∀ (p : Value) (w : World), (Instr.typeAssert (.iface 112 p) 32 53 true).run Tryz.prog w = .ok (.tuple #[.pointer none, .bool false]) w := fun _ _ => by kernel_rfl
  have q5 : ∀ (p : Value) (w : World), (Instr.typeAssert (.iface 112 p) 32 56 true).run Tryz.prog w = .ok (.tuple #[.pointer none, .bool false]) w := fun _ _ => by kernel_rfl
  have q6 : ∀ (p : Value) (w : World), (Instr.typeAssert (.iface 112 p) 32 59 true).run Tryz.prog w = .ok (.tuple #[.pointer none, .bool false]) w := fun _ _ => by kernel_rfl
  have q7 : ∀ (p : Value) (w : World), (Instr.typeAssert (.iface 112 p) 32 64 true).run Tryz.prog w = .ok (.tuple #[.pointer none, .bool false]) w := fun _ _ => by kernel_rfl
  have q8 : ∀ (p : Value) (w : World), (Instr.typeAssert (.iface 112 p) 32 67 true).run Tryz.prog w = .ok (.tuple #[.pointer none, .bool false]) w := fun _ _ => by kernel_rfl
  have q9 : ∀ (p : Value) (w : World), (Instr.typeAssert (.iface 112 p) 32 70 true).run Tryz.prog w = .ok (.tuple #[.pointer none, .bool false]) w := fun _ _ => by kernel_rfl
  have q10 : ∀ (p : Value) (w : World), (Instr.typeAssert (.iface 112 p) 32 73 true).run Tryz.prog w = .ok (.tuple #[.pointer none, .bool false]) w := fun _ _ => by kernel_rfl
  have q11 : ∀ (p : Value) (w : World), (Instr.typeAssert (.iface 112 p) 32 75 true).run Tryz.prog w = .ok (.tuple #[.pointer none, .bool false]) w := fun _ _ => by kernel_rfl
  have q12 : ∀ (p : Value) (w : World), (Instr.typeAssert (.iface 112 p) 32 77 true).run Tryz.prog w = .ok (.tuple #[.pointer none, .bool false]) w := fun _ _ => by kernel_rfl
  have q13 : ∀ (p : Value) (w : World), (Instr.typeAssert (.iface 112 p) 32 79 true).run Tryz.prog w = .ok (.tuple #[.pointer none, .bool false]) w := fun _ _ => by kernel_rfl
  have q14 : ∀ (p : Value) (w : World), (Instr.typeAssert (.iface 112 p) 32 81 true).run Tryz.prog w = .ok (.tuple #[.pointer none, .bool false]) w := fun _ _ => by kernel_rfl
  have q15 : ∀ (p : Value) (w : World), (Instr.typeAssert (.iface 112 p) 32 84 true).run Tryz.prog w = .ok (.tuple #[.pointer none, .bool false]) w := fun _ _ => by kernel_rfl
  have q16 : ∀ (p : Value) (w : World), (Instr.typeAssert (.iface 112 p) 32 87 true).run Tryz.prog w = .ok (.tuple #[.pointer none, .bool false]) w := fun _ _ => by kernel_rfl
  have q17 : ∀ (p : Value) (w : World), (Instr.typeAssert (.iface 112 p) 32 90 true).run Tryz.prog w = .ok (.tuple #[.pointer none, .bool false]) w := fun _ _ => by kernel_rfl
  go_enter Tryz.func16, Tryz.ntmps16
  go_wp2_with fail
  refine (kindMore_Literal p w).mono ?_
  rintro e w1 ⟨rfl, rfl⟩
  go_wp2_with fail
  go_ret
  exact ⟨rfl, rfl⟩

theorem kindMore_ArrayType (p : Value) (w : World) : Calls Tryz.prog 33 #[.iface 94 p] w fun e w' => e = .returned (.string ⟨#[65, 114, 114, 97, 121, 84, 121, 112, 101]⟩) ∧ w = w' := by
  have qy : ∀ (p : Value) (w : World), (Instr.typeAssert (.iface 94 p) 32 94 true).run Tryz.prog w = .ok (.tuple #[p, .bool true]) w := fun _ _ => by kernel_rfl
  go_enter Tryz.func33, Tryz.ntmps33
  go_wp2_with fail
  go_ret
  exact ⟨rfl, rfl⟩

theorem kindOf_ArrayType (p : Value) (w : World) : Calls Tryz.prog 16 #[.iface 94 p] w fun e w' => e = .returned (.string ⟨#[65, 114, 114, 97, 121, 84, 121, 112, 101]⟩) ∧ w = w' := by
  have q0 : ∀ (p : Value) (w : World), (Instr.typeAssert (.iface 94 p) 32 40 true).run Tryz.prog w = .ok (.tuple #[.pointer none, .bool false]) w := fun _ _ => by kernel_rfl
  have q1 : ∀ (p : Value) (w : World), (Instr.typeAssert (.iface 94 p) 32 43 true).run Tryz.prog w = .ok (.tuple #[.pointer none, .bool false]) w := fun _ _ => by kernel_rfl
  have q2 : ∀ (p : Value) (w : World), (Instr.typeAssert (.iface 94 p) 32 45 true).run Tryz.prog w = .ok (.tuple #[.pointer none, .bool false]) w := fun _ _ => by kernel_rfl
  have q3 : ∀ (p : Value) (w : World), (Instr.typeAssert (.iface 94 p) 32 49 true).run Tryz.prog w = .ok (.tuple #[.pointer none, .bool false]) w := fun _ _ => by kernel_rfl
  have q4 : ∀ (p : Value) (w : World), (Instr.typeAssert (.iface 94 p) 32 53 true).run Tryz.prog w = .ok (.tuple #[.pointer none, .bool false]) w := fun _ _ => by kernel_rfl
  have q5 : ∀ (p : Value) (w : World), (Instr.typeAssert (.iface 94 p) 32 56 true).run Tryz.prog w = .ok (.tuple #[.pointer none, .bool false]) w := fun _ _ => by kernel_rfl
  have q6 : ∀ (p : Value) (w : World), (Instr.typeAssert (.iface 94 p) 32 59 true).run Tryz.prog w = .ok (.tuple #[.pointer none, .bool false]) w := fun _ _ => by kernel_rfl
  have q7 : ∀ (p : Value) (w : World), (Instr.typeAssert (.iface 94 p) 32 64 true).run Tryz.prog w = .ok (.tuple #[.pointer none, .bool false]) w := fun _ _ => by kernel_rfl
  have q8 : ∀ (p : Value) (w : World), (Instr.typeAssert (.iface 94 p) 32 67 true).run Tryz.prog w = .ok (.tuple #[.pointer none, .bool false]) w := fun _ _ => by kernel_rfl
  have q9 : ∀ (p : Value) (w : World), (Instr.typeAssert (.iface 94 p) 32 70 true).run Tryz.prog w = .ok (.tuple #[.pointer none, .bool false]) w := fun _ _ => by kernel_rfl
  have q10 : ∀ (p : Value) (w : World), (Instr.typeAssert (.iface 94 p) 32 73 true).run Tryz.prog w = .ok (.tuple #[.pointer none, .bool false]) w := fun _ _ => by kernel_rfl
  have q11 : ∀ (p : Value) (w : World), (Instr.typeAssert (.iface 94 p) 32 75 true).run Tryz.prog w = .ok (.tuple #[.pointer none, .bool false]) w := fun _ _ => by kernel_rfl
  have q12 : ∀ (p : Value) (w : World), (Instr.typeAssert (.iface 94 p) 32 77 true).run Tryz.prog w = .ok (.tuple #[.pointer none, .bool false]) w := fun _ _ => by kernel_rfl
  have q13 : ∀ (p : Value) (w : World), (Instr.typeAssert (.iface 94 p) 32 79 true).run Tryz.prog w = .ok (.tuple #[.pointer none, .bool false]) w := fun _ _ => by kernel_rfl
  have q14 : ∀ (p : Value) (w : World), (Instr.typeAssert (.iface 94 p) 32 81 true).run Tryz.prog w = .ok (.tuple #[.pointer none, .bool false]) w := fun _ _ => by kernel_rfl
  have q15 : ∀ (p : Value) (w : World), (Instr.typeAssert (.iface 94 p) 32 84 true).run Tryz.prog w = .ok (.tuple #[.pointer none, .bool false]) w := fun _ _ => by kernel_rfl
  have q16 : ∀ (p : Value) (w : World), (Instr.typeAssert (.iface 94 p) 32 87 true).run Tryz.prog w = .ok (.tuple #[.pointer none, .bool false]) w := fun _ _ => by kernel_rfl
  have q17 : ∀ (p : Value) (w : World), (Instr.typeAssert (.iface 94 p) 32 90 true).run Tryz.prog w = .ok (.tuple #[.pointer none, .bool false]) w := fun _ _ => by kernel_rfl
  go_enter Tryz.func16, Tryz.ntmps16
  go_wp2_with fail
  refine (kindMore_ArrayType p w).mono ?_
  rintro e w1 ⟨rfl, rfl⟩
  go_wp2_with fail
  go_ret
  exact ⟨rfl, rfl⟩

theorem kindMore_PtrMem (p : Value) (w : World) : Calls Tryz.prog 33 #[.iface 100 p] w fun e w' => e = .returned (.string ⟨#[80, 116, 114, 77, 101, 109]⟩) ∧ w = w' := by
  have q0 : ∀ (p : Value) (w : World), (Instr.typeAssert (.iface 100 p) 32 94 true).run Tryz.prog w = .ok (.tuple #[.pointer none, .bool false]) w := fun _ _ => by kernel_rfl
  have q1 : ∀ (p : Value) (w : World), (Instr.typeAssert (.iface 100 p) 32 97 true).run Tryz.prog w = .ok (.tuple #[.pointer none, .bool false]) w := fun _ _ => by kernel_rfl
  have qy : ∀ (p : Value) (w : World), (Instr.typeAssert (.iface 100 p) 32 100 true).run Tryz.prog w = .ok (.tuple #[p, .bool true]) w := fun _ _ => by kernel_rfl
  go_enter Tryz.func33, Tryz.ntmps33
  go_wp2_with fail
  go_ret
  exact ⟨rfl, rfl⟩

theorem kindOf_PtrMem (p : Value) (w : World) : Calls Tryz.prog 16 #[.iface 100 p] w fun e w' => e = .returned (.string ⟨#[80, 116, 114, 77, 101, 109]⟩) ∧ w = w' := by
  have q0 : ∀ (p : Value) (w : World), (Instr.typeAssert (.iface 100 p) 32 40 true).run Tryz.prog w = .ok (.tuple #[.pointer none, .bool false]) w := fun _ _ => by kernel_rfl
  have q1 : ∀ (p : Value) (w : World), (Instr.typeAssert (.iface 100 p) 32 43 true).run Tryz.prog w = .ok (.tuple #[.pointer none, .bool false]) w := fun _ _ => by kernel_rfl
  have q2 : ∀ (p : Value) (w : World), (Instr.typeAssert (.iface 100 p) 32 45 true).run Tryz.prog w = .ok (.tuple #[.pointer none, .bool false]) w := fun _ _ => by kernel_rfl
  have q3 : ∀ (p : Value) (w : World), (Instr.typeAssert (.iface 100 p) 32 49 true).run Tryz.prog w = .ok (.tuple #[.pointer none, .bool false]) w := fun _ _ => by kernel_rfl
  have q4 : ∀ (p : Value) (w : World), (Instr.typeAssert (.iface 100 p) 32 53 true).run Tryz.prog w = .ok (.tuple #[.pointer none, .bool false]) w := fun _ _ => by kernel_rfl
  have q5 : ∀ (p : Value) (w : World), (Instr.typeAssert (.iface 100 p) 32 56 true).run Tryz.prog w = .ok (.tuple #[.pointer none, .bool false]) w := fun _ _ => by kernel_rfl
  have q6 : ∀ (p : Value) (w : World), (Instr.typeAssert (.iface 100 p) 32 59 true).run Tryz.prog w = .ok (.tuple #[.pointer none, .bool false]) w := fun _ _ => by kernel_rfl
  have q7 : ∀ (p : Value) (w : World), (Instr.typeAssert (.iface 100 p) 32 64 true).run Tryz.prog w = .ok (.tuple #[.pointer none, .bool false]) w := fun _ _ => by kernel_rfl
  have q8 : ∀ (p : Value) (w : World), (Instr.typeAssert (.iface 100 p) 32 67 true).run Tryz.prog w = .ok (.tuple #[.pointer none, .bool false]) w := fun _ _ => by kernel_rfl
  have q9 : ∀ (p : Value) (w : World), (Instr.typeAssert (.iface 100 p) 32 70 true).run Tryz.prog w = .ok (.tuple #[.pointer none, .bool false]) w := fun _ _ => by kernel_rfl
  have q10 : ∀ (p : Value) (w : World), (Instr.typeAssert (.iface 100 p) 32 73 true).run Tryz.prog w = .ok (.tuple #[.pointer none, .bool false]) w := fun _ _ => by kernel_rfl
  have q11 : ∀ (p : Value) (w : World), (Instr.typeAssert (.iface 100 p) 32 75 true).run Tryz.prog w = .ok (.tuple #[.pointer none, .bool false]) w := fun _ _ => by kernel_rfl
  have q12 : ∀ (p : Value) (w : World), (Instr.typeAssert (.iface 100 p) 32 77 true).run Tryz.prog w = .ok (.tuple #[.pointer none, .bool false]) w := fun _ _ => by kernel_rfl
  have q13 : ∀ (p : Value) (w : World), (Instr.typeAssert (.iface 100 p) 32 79 true).run Tryz.prog w = .ok (.tuple #[.pointer none, .bool false]) w := fun _ _ => by kernel_rfl
  have q14 : ∀ (p : Value) (w : World), (Instr.typeAssert (.iface 100 p) 32 81 true).run Tryz.prog w = .ok (.tuple #[.pointer none, .bool false]) w := fun _ _ => by kernel_rfl
  have q15 : ∀ (p : Value) (w : World), (Instr.typeAssert (.iface 100 p) 32 84 true).run Tryz.prog w = .ok (.tuple #[.pointer none, .bool false]) w := fun _ _ => by kernel_rfl
  have q16 : ∀ (p : Value) (w : World), (Instr.typeAssert (.iface 100 p) 32 87 true).run Tryz.prog w = .ok (.tuple #[.pointer none, .bool false]) w := fun _ _ => by kernel_rfl
  have q17 : ∀ (p : Value) (w : World), (Instr.typeAssert (.iface 100 p) 32 90 true).run Tryz.prog w = .ok (.tuple #[.pointer none, .bool false]) w := fun _ _ => by kernel_rfl
  go_enter Tryz.func16, Tryz.ntmps16
  go_wp2_with fail
  refine (kindMore_PtrMem p w).mono ?_
  rintro e w1 ⟨rfl, rfl⟩
  go_wp2_with fail
  go_ret
  exact ⟨rfl, rfl⟩

theorem kindMore_VectorType (p : Value) (w : World) : Calls Tryz.prog 33 #[.iface 97 p] w fun e w' => e = .returned (.string ⟨#[86, 101, 99, 116, 111, 114, 84, 121, 112, 101]⟩) ∧ w = w' := by
  have q0 : ∀ (p : Value) (w : World), (Instr.typeAssert (.iface 97 p) 32 94 true).run Tryz.prog w = .ok (.tuple #[.pointer none, .bool false]) w := fun _ _ => by kernel_rfl
  have qy : ∀ (p : Value) (w : World), (Instr.typeAssert (.iface 97 p) 32 97 true).run Tryz.prog w = .ok (.tuple #[p, .bool true]) w := fun _ _ => by kernel_rfl
  go_enter Tryz.func33, Tryz.ntmps33
  go_wp2_with fail
  go_ret
  exact ⟨rfl, rfl⟩

theorem kindOf_VectorType (p : Value) (w : World) : Calls Tryz.prog 16 #[.iface 97 p] w fun e w' => e = .returned (.string ⟨#[86, 101, 99, 116, 111, 114, 84, 121, 112, 101]⟩) ∧ w = w' := by
  have q0 : ∀ (p : Value) (w : World), (Instr.typeAssert (.iface 97 p) 32 40 true).run Tryz.prog w = .ok (.tuple #[.pointer none, .bool false]) w := fun _ _ => by kernel_rfl
  have q1 : ∀ (p : Value) (w : World), (Instr.typeAssert (.iface 97 p) 32 43 true).run Tryz.prog w = .ok (.tuple #[.pointer none, .bool false]) w := fun _ _ => by kernel_rfl
  have q2 : ∀ (p : Value) (w : World), (Instr.typeAssert (.iface 97 p) 32 45 true).run Tryz.prog w = .ok (.tuple #[.pointer none, .bool false]) w := fun _ _ => by kernel_rfl
  have q3 : ∀ (p : Value) (w : World), (Instr.typeAssert (.iface 97 p) 32 49 true).run Tryz.prog w = .ok (.tuple #[.pointer none, .bool false]) w := fun _ _ => by kernel_rfl
  have q4 : ∀ (p : Value) (w : World), (Instr.typeAssert (.iface 97 p) 32 53 true).run Tryz.prog w = .ok (.tuple #[.pointer none, .bool false]) w := fun _ _ => by kernel_rfl
  have q5 : ∀ (p : Value) (w : World), (Instr.typeAssert (.iface 97 p) 32 56 true).run Tryz.prog w = .ok (.tuple #[.pointer none, .bool false]) w := fun _ _ => by kernel_rfl
  have q6 : ∀ (p : Value) (w : World), (Instr.typeAssert (.iface 97 p) 32 59 true).run Tryz.prog w = .ok (.tuple #[.pointer none, .bool false]) w := fun _ _ => by kernel_rfl
  have q7 : ∀ (p : Value) (w : World), (Instr.typeAssert (.iface 97 p) 32 64 true).run Tryz.prog w = .ok (.tuple #[.pointer none, .bool false]) w := fun _ _ => by kernel_rfl
  have q8 : ∀ (p : Value) (w : World), (Instr.typeAssert (.iface 97 p) 32 67 true).run Tryz.prog w = .ok (.tuple #[.pointer none, .bool false]) w := fun _ _ => by kernel_rfl
  have q9 : ∀ (p : Value) (w : World), (Instr.typeAssert (.iface 97 p) 32 70 true).run Tryz.prog w = .ok (.tuple #[.pointer none, .bool false]) w := fun _ _ => by kernel_rfl
  have q10 : ∀ (p : Value) (w : World), (Instr.typeAssert (.iface 97 p) 32 73 true).run Tryz.prog w = .ok (.tuple #[.pointer none, .bool false]) w := fun _ _ => by kernel_rfl
  have q11 : ∀ (p : Value) (w : World), (Instr.typeAssert (.iface 97 p) 32 75 true).run Tryz.prog w = .ok (.tuple #[.pointer none, .bool false]) w := fun _ _ => by kernel_rfl
  have q12 : ∀ (p : Value) (w : World), (Instr.typeAssert (.iface 97 p) 32 77 true).run Tryz.prog w = .ok (.tuple #[.pointer none, .bool false]) w := fun _ _ => by kernel_rfl
  have q13 : ∀ (p : Value) (w : World), (Instr.typeAssert (.iface 97 p) 32 79 true).run Tryz.prog w = .ok (.tuple #[.pointer none, .bool false]) w := fun _ _ => by kernel_rfl
  have q14 : ∀ (p : Value) (w : World), (Instr.typeAssert (.iface 97 p) 32 81 true).run Tryz.prog w = .ok (.tuple #[.pointer none, .bool false]) w := fun _ _ => by kernel_rfl
  have q15 : ∀ (p : Value) (w : World), (Instr.typeAssert (.iface 97 p) 32 84 true).run Tryz.prog w = .ok (.tuple #[.pointer none, .bool false]) w := fun _ _ => by kernel_rfl
  have q16 : ∀ (p : Value) (w : World), (Instr.typeAssert (.iface 97 p) 32 87 true).run Tryz.prog w = .ok (.tuple #[.pointer none, .bool false]) w := fun _ _ => by kernel_rfl
  have q17 : ∀ (p : Value) (w : World), (Instr.typeAssert (.iface 97 p) 32 90 true).run Tryz.prog w = .ok (.tuple #[.pointer none, .bool false]) w := fun _ _ => by kernel_rfl
  go_enter Tryz.func16, Tryz.ntmps16
  go_wp2_with fail
  refine (kindMore_VectorType p w).mono ?_
  rintro e w1 ⟨rfl, rfl⟩
  go_wp2_with fail
  go_ret
  exact ⟨rfl, rfl⟩

theorem kindMore_VendorQualifier (p : Value) (w : World) : Calls Tryz.prog 33 #[.iface 103 p] w fun e w' => e = .returned (.string ⟨#[86, 101, 110, 100, 111, 114, 81, 117, 97, 108, 105, 102, 105, 101, 114]⟩) ∧ w = w' := by
  have q0 : ∀ (p : Value) (w : World), (Instr.typeAssert (.iface 103 p) 32 94 true).run Tryz.prog w = .ok (.tuple #[.pointer none, .bool false]) w := fun _ _ => by kernel_rfl
  have q1 : ∀ (p : Value) (w : World), (Instr.typeAssert (.iface 103 p) 32 97 true).run Tryz.prog w = .ok (.tuple #[.pointer none, .bool false]) w := fun _ _ => by kernel_rfl
  have q2 : ∀ (p : Value) (w : World), (Instr.typeAssert (.iface 103 p) 32 100 true).run Tryz.prog w = .ok (.tuple #[.pointer none, .bool false]) w := fun _ _ => by kernel_rfl
  have qy : ∀ (p : Value) (w : World), (Instr.typeAssert (.iface 103 p) 32 103 true).run Tryz.prog w = .ok (.tuple #[p, .bool true]) w := fun _ _ => by kernel_rfl
  go_enter Tryz.func33, Tryz.ntmps33
  go_wp2_with fail
  go_ret
  exact ⟨rfl, rfl⟩

theorem kindOf_VendorQualifier (p : Value) (w : World) : Calls Tryz.prog 16 #[.iface 103 p] w fun e w' => e = .returned (.string ⟨#[86, 101, 110, 100, 111, 114, 81, 117, 97, 108, 105, 102, 105, 101, 114]⟩) ∧ w = w' := by
  have q0 : ∀ (p : Value) (w : World), (Instr.typeAssert (.iface 103 p) 32 40 true).run Tryz.prog w = .ok (.tuple #[.pointer none, .bool false]) w := fun _ _ => by kernel_rfl
  have q1 : ∀ (p : Value) (w : World), (Instr.typeAssert (.iface 103 p) 32 43 true).run Tryz.prog w = .ok (.tuple #[.pointer none, .bool false]) w := fun _ _ => by kernel_rfl
  have q2 : ∀ (p : Value) (w : World), (Instr.typeAssert (.iface 103 p) 32 45 true).run Tryz.prog w = .ok (.tuple #[.pointer none, .bool false]) w := fun _ _ => by kernel_rfl
  have q3 : ∀ (p : Value) (w : World), (Instr.typeAssert (.iface 103 p) 32 49 true).run Tryz.prog w = .ok (.tuple #[.pointer none, .bool false]) w := fun _ _ => by kernel_rfl
  have q4 : ∀ (p : Value) (w : World), (Instr.typeAssert (.iface 103 p) 32 53 true).run Tryz.prog w = .ok (.tuple #[.pointer none, .bool false]) w := fun _ _ => by kernel_rfl
  have q5 : ∀ (p : Value) (w : World), (Instr.typeAssert (.iface 103 p) 32 56 true).run Tryz.prog w = .ok (.tuple #[.pointer none, .bool false]) w := fun _ _ => by kernel_rfl
  have q6 : ∀ (p : Value) (w : World), (Instr.typeAssert (.iface 103 p) 32 59 true).run Tryz.prog w = .ok (.tuple #[.pointer none, .bool false]) w := fun _ _ => by kernel_rfl
  have q7 : ∀ (p : Value) (w : World), (Instr.typeAssert (.iface 103 p) 32 64 true).run Tryz.prog w = .ok (.tuple #[.pointer none, .bool false]) w := fun _ _ => by kernel_rfl
  have q8 : ∀ (p : Value) (w : World), (Instr.typeAssert (.iface 103 p) 32 67 true).run Tryz.prog w = .ok (.tuple #[.pointer none, .bool false]) w := fun _ _ => by kernel_rfl
  have q9 : ∀ (p : Value) (w : World), (Instr.typeAssert (.iface 103 p) 32 70 true).run Tryz.prog w = .ok (.tuple #[.pointer none, .bool false]) w := fun _ _ => by kernel_rfl
  have q10 : ∀ (p : Value) (w : World), (Instr.typeAssert (.iface 103 p) 32 73 true).run Tryz.prog w = .ok (.tuple #[.pointer none, .bool false]) w := fun _ _ => by kernel_rfl
  have q11 : ∀ (p : Value) (w : World), (Instr.typeAssert (.iface 103 p) 32 75 true).run Tryz.prog w = .ok (.tuple #[.pointer none, .bool false]) w := fun _ _ => by kernel_rfl
  have q12 : ∀ (p : Value) (w : World), (Instr.typeAssert (.iface 103 p) 32 77 true).run Tryz.prog w = .ok (.tuple #[.pointer none, .bool false]) w := fun _ _ => by kernel_rfl
  have q13 : ∀ (p : Value) (w : World), (Instr.typeAssert (.iface 103 p) 32 79 true).run Tryz.prog w = .ok (.tuple #[.pointer none, .bool false]) w := fun _ _ => by kernel_rfl
  have q14 : ∀ (p : Value) (w : World), (Instr.typeAssert (.iface 103 p) 32 81 true).run Tryz.prog w = .ok (.tuple #[.pointer none, .bool false]) w := fun _ _ => by kernel_rfl
  have q15 : ∀ (p : Value) (w : World), (Instr.typeAssert (.iface 103 p) 32 84 true).run Tryz.prog w = .ok (.tuple #[.pointer none, .bool false]) w := fun _ _ => by kernel_rfl
  have q16 : ∀ (p : Value) (w : World), (Instr.typeAssert (.iface 103 p) 32 87 true).run Tryz.prog w = .ok (.tuple #[.pointer none, .bool false]) w := fun _ _ => by kernel_rfl
  have q17 : ∀ (p : Value) (w : World), (Instr.typeAssert (.iface 103 p) 32 90 true).run Tryz.prog w = .ok (.tuple #[.pointer none, .bool false]) w := fun _ _ => by kernel_rfl
  go_enter Tryz.func16, Tryz.ntmps16
  go_wp2_with fail
  refine (kindMore_VendorQualifier p w).mono ?_
  rintro e w1 ⟨rfl, rfl⟩
  go_wp2_with fail
  go_ret
  exact ⟨rfl, rfl⟩

theorem kindMore_TaggedName (p : Value) (w : World) : Calls Tryz.prog 33 #[.iface 128 p] w fun e w' => e = .returned (.string ⟨#[84, 97, 103, 103, 101, 100, 78, 97, 109, 101]⟩) ∧ w = w' := by
  have q0 : ∀ (p : Value) (w : World), (Instr.typeAssert (.iface 128 p) 32 94 true).run Tryz.prog w = .ok (.tuple #[.pointer none, .bool false]) w := fun _ _ => by kernel_rfl
  have q1 : ∀ (p : Value) (w : World), (Instr.typeAssert (.iface 128 p) 32 97 true).run Tryz.prog w = .ok (.tuple #[.pointer none, .bool false]) w := fun _ _ => by kernel_rfl
  have q2 : ∀ (p : Value) (w : World), (Instr.typeAssert (.iface 128 p) 32 100 true).run Tryz.prog w = .ok (.tuple #[.pointer none, .bool false]) w := fun _ _ => by kernel_rfl
  have q3 : ∀ (p : Value) (w : World), (Instr.typeAssert (.iface 128 p) 32 103 true).run Tryz.prog w = .ok (.tuple #[.pointer none, .bool false]) w := fun _ _ => by kernel_rfl
  have q4 : ∀ (p : Value) (w : World), (Instr.typeAssert (.iface 128 p) 32 106 true).run Tryz.prog w = .ok (.tuple #[.pointer none, .bool false]) w := fun _ _ => by kernel_rfl
  have q5 : ∀ (p : Value) (w : World), (Instr.typeAssert (.iface 128 p) 32 109 true).run Tryz.prog w = .ok (.tuple #[.pointer none, .bool false]) w := fun _ _ => by kernel_rfl
  have q6 : ∀ (p : Value) (w : World), (Instr.typeAssert (.iface 128 p) 32 112 true).run Tryz.prog w = .ok (.tuple #[.pointer none, .bool false]) w := fun _ _ => by kernel_rfl
  have q7 : ∀ (p : Value) (w : World), (Instr.typeAssert (.iface 128 p) 32 115 true).run Tryz.prog w = .ok (.tuple #[.pointer none, .bool false]) w := fun _ _ => by kernel_rfl
  have q8 : ∀ (p : Value) (w : World), (Instr.typeAssert (.iface 128 p) 32 119 true).run Tryz.prog w = .ok (.tuple #[.pointer none, .bool false]) w := fun _ _ => by kernel_rfl
  have q9 : ∀ (p : Value) (w : World), (Instr.typeAssert (.iface 128 p) 32 122 true).run Tryz.prog w = .ok (.tuple #[.pointer none, .bool false]) w := fun _ _ => by kernel_rfl
  have q10 : ∀ (p : Value) (w : World), (Instr.typeAssert (.iface 128 p) 32 125 true).run Tryz.prog w = .ok (.tuple #[.pointer none, .bool false]) w := fun _ _ => by kernel_rfl
  have qy : ∀ (p : Value) (w : World), (Instr.typeAssert (.iface 128 p) 32 128 true).run Tryz.prog w = .ok (.tuple #[p, .bool true]) w := fun _ _ => by kernel_rfl
  go_enter Tryz.func33, Tryz.ntmps33
  go_wp2_with fail
  go_ret
  exact ⟨rfl, rfl⟩

theorem kindOf_TaggedName (p : Value) (w : World) : Calls Tryz.prog 16 #[.iface 128 p] w fun e w' => e = .returned (.string ⟨#[84, 97, 103, 103, 101, 100, 78, 97, 109, 101]⟩) ∧ w = w' := by
  have q0 : ∀ (p : Value) (w : World), (Instr.typeAssert (.iface 128 p) 32 40 true).run Tryz.prog w = .ok (.tuple #[.pointer none, .bool false]) w := fun _ _ => by kernel_rfl
  have q1 : ∀ (p : Value) (w : World), (Instr.typeAssert (.iface 128 p) 32 43 true).run Tryz.prog w = .ok (.tuple #[.pointer none, .bool false]) w := fun _ _ => by kernel_rfl
  have q2 : ∀ (p : Value) (w : World), (Instr.typeAssert (.iface 128 p) 32 45 true).run Tryz.prog w = .ok (.tuple #[.pointer none, .bool false]) w := fun _ _ => by kernel_rfl
  have q3 : ∀ (p : Value) (w : World), (Instr.typeAssert (.iface 128 p) 32 49 true).run Tryz.prog w = .ok (.tuple #[.pointer none, .bool false]) w := fun _ _ => by kernel_rfl
  have q4 : ∀ (p : Value) (w : World), (Instr.typeAssert (.iface 128 p) 32 53 true).run Tryz.prog w = .ok (.tuple #[.pointer none, .bool false]) w := fun _ _ => by kernel_rfl
  have q5 : ∀ (p : Value) (w : World), (Instr.typeAssert (.iface 128 p) 32 56 true).run Tryz.prog w = .ok (.tuple #[.pointer none, .bool false]) w := fun _ _ => by kernel_rfl
  have q6 : ∀ (p : Value) (w : World), (Instr.typeAssert (.iface 128 p) 32 59 true).run Tryz.prog w = .ok (.tuple #[.pointer none, .bool false]) w := fun _ _ => by kernel_rfl
  have q7 : ∀ (p : Value) (w : World), (Instr.typeAssert (.iface 128 p) 32 64 true).run Tryz.prog w = .ok (.tuple #[.pointer none, .bool false]) w := fun _ _ => by kernel_rfl
  have q8 : ∀ (p : Value) (w : World), (Instr.typeAssert (.iface 128 p) 32 67 true).run Tryz.prog w = .ok (.tuple #[.pointer none, .bool false]) w := fun _ _ => by kernel_rfl
  have q9 : ∀ (p : Value) (w : World), (Instr.typeAssert (.iface 128 p) 32 70 true).run Tryz.prog w = .ok (.tuple #[.pointer none, .bool false]) w := fun _ _ => by kernel_rfl
  have q10 : ∀ (p : Value) (w : World), (Instr.typeAssert (.iface 128 p) 32 73 true).run Tryz.prog w = .ok (.tuple #[.pointer none, .bool false]) w := fun _ _ => by kernel_rfl
  have q11 : ∀ (p : Value) (w : World), (Instr.typeAssert (.iface 128 p) 32 75 true).run Tryz.prog w = .ok (.tuple #[.pointer none, .bool false]) w := fun _ _ => by kernel_rfl
  have q12 : ∀ (p : Value) (w : World), (Instr.typeAssert (.iface 128 p) 32 77 true).run Tryz.prog w = .ok (.tuple #[.pointer none, .bool false]) w := fun _ _ => by kernel_rfl
  have q13 : ∀ (p : Value) (w : World), (Instr.typeAssert (.iface 128 p) 32 79 true).run Tryz.prog w = .ok (.tuple #[.pointer none, .bool false]) w := fun _ _ => by kernel_rfl
  have q14 : ∀ (p : Value) (w : World), (Instr.typeAssert (.iface 128 p) 32 81 true).run Tryz.prog w = .ok (.tuple #[.pointer none, .bool false]) w := fun _ _ => by kernel_rfl
  have q15 : ∀ (p : Value) (w : World), (Instr.typeAssert (.iface 128 p) 32 84 true).run Tryz.prog w = .ok (.tuple #[.pointer none, .bool false]) w := fun _ _ => by kernel_rfl
  have q16 : ∀ (p : Value) (w : World), (Instr.typeAssert (.iface 128 p) 32 87 true).run Tryz.prog w = .ok (.tuple #[.pointer none, .bool false]) w := fun _ _ => by kernel_rfl
  have q17 : ∀ (p : Value) (w : World), (Instr.typeAssert (.iface 128 p) 32 90 true).run Tryz.prog w = .ok (.tuple #[.pointer none, .bool false]) w := fun _ _ => by kernel_rfl
  go_enter Tryz.func16, Tryz.ntmps16
  go_wp2_with fail
  refine (kindMore_TaggedName p w).mono ?_
  rintro e w1 ⟨rfl, rfl⟩
  go_wp2_with fail
  go_ret
  exact ⟨rfl, rfl⟩

theorem kindMore_ArgumentPack (p : Value) (w : World) : Calls Tryz.prog 33 #[.iface 115 p] w fun e w' => e = .returned (.string ⟨#[65, 114, 103, 117, 109, 101, 110, 116, 80, 97, 99, 107]⟩) ∧ w = w' := by
  have q0 : ∀ (p : Value) (w : World), (Instr.typeAssert (.iface 115 p) 32 94 true).run Tryz.prog w = .ok (.tuple #[.pointer none, .bool false]) w := fun _ _ => by kernel_rfl
  have q1 : ∀ (p : Value) (w : World), (Instr.typeAssert (.iface 115 p) 32 97 true).run Tryz.prog w = .ok (.tuple #[.pointer none, .bool false]) w := fun _ _ => by kernel_rfl
  have q2 : ∀ (p : Value) (w : World), (Instr.typeAssert (.iface 115 p) 32 100 true).run Tryz.prog w = .ok (.tuple #[.pointer none, .bool false]) w := fun _ _ => by kernel_rfl
  have q3 : ∀ (p : Value) (w : World), (Instr.typeAssert (.iface 115 p) 32 103 true).run Tryz.prog w = .ok (.tuple #[.pointer none, .bool false]) w := fun _ _ => by kernel_rfl
  have q4 : ∀ (p : Value) (w : World), (Instr.typeAssert (.iface 115 p) 32 106 true).run Tryz.prog w = .ok (.tuple #[.pointer none, .bool false]) w := fun _ _ => by kernel_rfl
  have q5 : ∀ (p : Value) (w : World), (Instr.typeAssert (.iface 115 p) 32 109 true).run Tryz.prog w = .ok (.tuple #[.pointer none, .bool false]) w := fun _ _ => by kernel_rfl
  have q6 : ∀ (p : Value) (w : World), (Instr.typeAssert (.iface 115 p) 32 112 true).run Tryz.prog w = .ok (.tuple #[.pointer none, .bool false]) w := fun _ _ => by kernel_rfl
  have qy : ∀ (p : Value) (w : World), (Instr.typeAssert (.iface 115 p) 32 115 true).run Tryz.prog w = .ok (.tuple #[p, .bool true]) w := fun _ _ => by kernel_rfl
  go_enter Tryz.func33, Tryz.ntmps33
  go_wp2_with fail
  go_ret
  exact ⟨rfl, rfl⟩

theorem kindOf_ArgumentPack (p : Value) (w : World) : Calls Tryz.prog 16 #[.iface 115 p] w fun e w' => e = .returned (.string ⟨#[65, 114, 103, 117, 109, 101, 110, 116, 80, 97, 99, 107]⟩) ∧ w = w' := by
  have q0 : ∀ (p : Value) (w : World), (Instr.typeAssert (.iface 115 p) 32 40 true).run Tryz.prog w = .ok (.tuple #[.pointer none, .bool false]) w := fun _ _ => by kernel_rfl
  have q1 : ∀ (p : Value) (w : World), (Instr.typeAssert (.iface 115 p) 32 43 true).run Tryz.prog w = .ok (.tuple #[.pointer none, .bool false]) w := fun _ _ => by kernel_rfl
  have q2 : ∀ (p : Value) (w : World), (Instr.typeAssert (.iface 115 p) 32 45 true).run Tryz.prog w = .ok (.tuple #[.pointer none, .bool false]) w := fun _ _ => by kernel_rfl
  have q3 : ∀ (p : Value) (w : World), (Instr.typeAssert (.iface 115 p) 32 49 true).run Tryz.prog w = .ok (.tuple #[.pointer none, .bool false]) w := fun _ _ => by kernel_rfl
  have q4 : ∀ (p : Value) (w : World), (Instr.typeAssert (.iface 115 p) 32 53 true).run Tryz.prog w = .ok (.tuple #[.pointer none, .bool false]) w := fun _ _ => by kernel_rfl
  have q5 : ∀ (p : Value) (w : World), (Instr.typeAssert (.iface 115 p) 32 56 true).run Tryz.prog w = .ok (.tuple #[.pointer none, .bool false]) w := fun _ _ => by kernel_rfl
  have q6 : ∀ (p : Value) (w : World), (Instr.typeAssert (.iface 115 p) 32 59 true).run Tryz.prog w = .ok (.tuple #[.pointer none, .bool false]) w := fun _ _ => by kernel_rfl
  have q7 : ∀ (p : Value) (w : World), (Instr.typeAssert (.iface 115 p) 32 64 true).run Tryz.prog w = .ok (.tuple #[.pointer none, .bool false]) w := fun _ _ => by kernel_rfl
  have q8 : ∀ (p : Value) (w : World), (Instr.typeAssert (.iface 115 p) 32 67 true).run Tryz.prog w = .ok (.tuple #[.pointer none, .bool false]) w := fun _ _ => by kernel_rfl
  have q9 : ∀ (p : Value) (w : World), (Instr.typeAssert (.iface 115 p) 32 70 true).run Tryz.prog w = .ok (.tuple #[.pointer none, .bool false]) w := fun _ _ => by kernel_rfl
  have q10 : ∀ (p : Value) (w : World), (Instr.typeAssert (.iface 115 p) 32 73 true).run Tryz.prog w = .ok (.tuple #[.pointer none, .bool false]) w := fun _ _ => by kernel_rfl
  have q11 : ∀ (p : Value) (w : World), (Instr.typeAssert (.iface 115 p) 32 75 true).run Tryz.prog w = .ok (.tuple #[.pointer none, .bool false]) w := fun _ _ => by kernel_rfl
  have q12 : ∀ (p : Value) (w : World), (Instr.typeAssert (.iface 115 p) 32 77 true).run Tryz.prog w = .ok (.tuple #[.pointer none, .bool false]) w := fun _ _ => by kernel_rfl
  have q13 : ∀ (p : Value) (w : World), (Instr.typeAssert (.iface 115 p) 32 79 true).run Tryz.prog w = .ok (.tuple #[.pointer none, .bool false]) w := fun _ _ => by kernel_rfl
  have q14 : ∀ (p : Value) (w : World), (Instr.typeAssert (.iface 115 p) 32 81 true).run Tryz.prog w = .ok (.tuple #[.pointer none, .bool false]) w := fun _ _ => by kernel_rfl
  have q15 : ∀ (p : Value) (w : World), (Instr.typeAssert (.iface 115 p) 32 84 true).run Tryz.prog w = .ok (.tuple #[.pointer none, .bool false]) w := fun _ _ => by kernel_rfl
  have q16 : ∀ (p : Value) (w : World), (Instr.typeAssert (.iface 115 p) 32 87 true).run Tryz.prog w = .ok (.tuple #[.pointer none, .bool false]) w := fun _ _ => by kernel_rfl
  have q17 : ∀ (p : Value) (w : World), (Instr.typeAssert (.iface 115 p) 32 90 true).run Tryz.prog w = .ok (.tuple #[.pointer none, .bool false]) w := fun _ _ => by kernel_rfl
  go_enter Tryz.func16, Tryz.ntmps16
  go_wp2_with fail
  refine (kindMore_ArgumentPack p w).mono ?_
  rintro e w1 ⟨rfl, rfl⟩
  go_wp2_with fail
  go_ret
  exact ⟨rfl, rfl⟩

theorem kindMore_Closure (p : Value) (w : World) : Calls Tryz.prog 33 #[.iface 122 p] w fun e w' => e = .returned (.string ⟨#[67, 108, 111, 115, 117, 114, 101]⟩) ∧ w = w' := by
  have q0 : ∀ (p : Value) (w : World), (Instr.typeAssert (.iface 122 p) 32 94 true).run Tryz.prog w = .ok (.tuple #[.pointer none, .bool false]) w := fun _ _ => by kernel_rfl
  have q1 : ∀ (p : Value) (w : World), (Instr.typeAssert (.iface 122 p) 32 97 true).run Tryz.prog w = .ok (.tuple #[.pointer none, .bool false]) w := fun _ _ => by kernel_rfl
  have q2 : ∀ (p : Value) (w : World), (Instr.typeAssert (.iface 122 p) 32 100 true).run Tryz.prog w = .ok (.tuple #[.pointer none, .bool false]) w := fun _ _ => by kernel_rfl
  have q3 : ∀ (p : Value) (w : World), (Instr.typeAssert (.iface 122 p) 32 103 true).run Tryz.prog w = .ok (.tuple #[.pointer none, .bool false]) w := fun _ _ => by kernel_rfl
  have q4 : ∀ (p : Value) (w : World), (Instr.typeAssert (.iface 122 p) 32 106 true).run Tryz.prog w = .ok (.tuple #[.pointer none, .bool false]) w := fun _ _ => by kernel_rfl
  have q5 : ∀ (p : Value) (w : World), (Instr.typeAssert (.iface 122 p) 32 109 true).run Tryz.prog w = .ok (.tuple #[.pointer none, .bool false]) w := fun _ _ => by kernel_rfl
  have q6 : ∀ (p : Value) (w : World), (Instr.typeAssert (.iface 122 p) 32 112 true).run Tryz.prog w = .ok (.tuple #[.pointer none, .bool false]) w := fun _ _ => by kernel_rfl
  have q7 : ∀ (p : Value) (w : World), (Instr.typeAssert (.iface 122 p) 32 115 true).run Tryz.prog w = .ok (.tuple #[.pointer none, .bool false]) w := fun _ _ => by kernel_rfl
  have q8 : ∀ (p : Value) (w : World), (Instr.typeAssert (.iface 122 p) 32 119 true).run Tryz.prog w = .ok (.tuple #[.pointer none, .bool false]) w := fun _ _ => by kernel_rfl
  have qy : ∀ (p : Value) (w : World), (Instr.typeAssert (.iface 122 p) 32 122 true).run Tryz.prog w = .ok (.tuple #[p, .bool true]) w := fun _ _ => by kernel_rfl
  go_enter Tryz.func33, Tryz.ntmps33
  go_wp2_with fail
  go_ret
  exact ⟨rfl, rfl⟩

theorem kindOf_Closure (p : Value) (w : World) : Calls Tryz.prog 16 #[.iface 122 p] w fun e w' => e = .returned (.string ⟨#[67, 108, 111, 115, 117, 114, 101]⟩) ∧ w = w' := by
  have q0 : ∀ (p : Value) (w : World), (Instr.typeAssert (.iface 122 p) 32 40 true).run Tryz.prog w = .ok (.tuple #[.pointer none, .bool false]) w := fun _ _ => by kernel_rfl
  have q1 : ∀ (p : Value) (w : World), (Instr.typeAssert (.iface 122 p) 32 43 true).run Tryz.prog w = .ok (.tuple #[.pointer none, .bool false]) w := fun _ _ => by kernel_rfl
  have q2 : ∀ (p : Value) (w : World), (Instr.typeAssert (.iface 122 p) 32 45 true).run Tryz.prog w = .ok (.tuple #[.pointer none, .bool false]) w := fun _ _ => by kernel_rfl
  have q3 : ∀ (p : Value) (w : World), (Instr.typeAssert (.iface 122 p) 32 49 true).run Tryz.prog w = .ok (.tuple #[.pointer none, .bool false]) w := fun _ _ => by kernel_rfl
  have q4 : ∀ (p : Value) (w : World), (Instr.typeAssert (.iface 122 p) 32 53 true).run Tryz.prog w = .ok (.tuple #[.pointer none, .bool false]) w := fun _ _ => by kernel_rfl
  have q5 : ∀ (p : Value) (w : World), (Instr.typeAssert (.iface 122 p) 32 56 true).run Tryz.prog w = .ok (.tuple #[.pointer none, .bool false]) w := fun _ _ => by kernel_rfl
  have q6 : ∀ (p : Value) (w : World), (Instr.typeAssert (.iface 122 p) 32 59 true).run Tryz.prog w = .ok (.tuple #[.pointer none, .bool false]) w := fun _ _ => by kernel_rfl
  have q7 : ∀ (p : Value) (w : World), (Instr.typeAssert (.iface 122 p) 32 64 true).run Tryz.prog w = .ok (.tuple #[.pointer none, .bool false]) w := fun _ _ => by kernel_rfl
  have q8 : ∀ (p : Value) (w : World), (Instr.typeAssert (.iface 122 p) 32 67 true).run Tryz.prog w = .ok (.tuple #[.pointer none, .bool false]) w := fun _ _ => by kernel_rfl
  have q9 : ∀ (p : Value) (w : World), (Instr.typeAssert (.iface 122 p) 32 70 true).run Tryz.prog w = .ok (.tuple #[.pointer none, .bool false]) w := fun _ _ => by kernel_rfl
  have q10 : ∀ (p : Value) (w : World), (Instr.typeAssert (.iface 122 p) 32 73 true).run Tryz.prog w = .ok (.tuple #[.pointer none, .bool false]) w := fun _ _ => by kernel_rfl
  have q11 : ∀ (p : Value) (w : World), (Instr.typeAssert (.iface 122 p) 32 75 true).run Tryz.prog w = .ok (.tuple #[.pointer none, .bool false]) w := fun _ _ => by kernel_rfl
  have q12 : ∀ (p : Value) (w : World), (Instr.typeAssert (.iface 122 p) 32 77 true).run Tryz.prog w = .ok (.tuple #[.pointer none, .bool false]) w := fun _ _ => by kernel_rfl
  have q13 : ∀ (p : Value) (w : World), (Instr.typeAssert (.iface 122 p) 32 79 true).run Tryz.prog w = .ok (.tuple #[.pointer none, .bool false]) w := fun _ _ => by kernel_rfl
  have q14 : ∀ (p : Value) (w : World), (Instr.typeAssert (.iface 122 p) 32 81 true).run Tryz.prog w = .ok (.tuple #[.pointer none, .bool false]) w := fun _ _ => by kernel_rfl
  have q15 : ∀ (p : Value) (w : World), (Instr.typeAssert (.iface 122 p) 32 84 true).run Tryz.prog w = .ok (.tuple #[.pointer none, .bool false]) w := fun _ _ => by kernel_rfl
  have q16 : ∀ (p : Value) (w : World), (Instr.typeAssert (.iface 122 p) 32 87 true).run Tryz.prog w = .ok (.tuple #[.pointer none, .bool false]) w := fun _ _ => by kernel_rfl
  have q17 : ∀ (p : Value) (w : World), (Instr.typeAssert (.iface 122 p) 32 90 true).run Tryz.prog w = .ok (.tuple #[.pointer none, .bool false]) w := fun _ _ => by kernel_rfl
  go_enter Tryz.func16, Tryz.ntmps16
  go_wp2_with fail
  refine (kindMore_Closure p w).mono ?_
  rintro e w1 ⟨rfl, rfl⟩
  go_wp2_with fail
  go_ret
  exact ⟨rfl, rfl⟩

end Go.Proofs.YtdlhhdhooacogaaGreatDoor

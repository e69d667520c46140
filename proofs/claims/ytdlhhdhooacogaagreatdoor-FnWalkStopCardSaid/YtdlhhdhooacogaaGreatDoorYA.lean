/-
  kindOf of an element, by its type (the first kinds).
-/
import Derived.Test.YtdlhhdhooacogaaGreatDoorWG
namespace Go.Proofs.YtdlhhdhooacogaaGreatDoor
open Go.RowKit

set_option maxHeartbeats 4000000

theorem kindOf_Name (p : Value) (w : World) : Calls Tryz.prog 16 #[.iface 40 p] w fun e w' => e = .returned (.string ⟨#[78, 97, 109, 101]⟩) ∧ w = w' := by
  have qy : ∀ (p : Value) (w : World), (Instr.typeAssert (.iface 40 p) 32 40 true).run Tryz.prog w = .ok (.tuple #[p, .bool true]) w := fun _ _ => by kernel_rfl
  go_enter Tryz.func16, Tryz.ntmps16
  go_wp2_with fail
  go_ret
  exact ⟨rfl, rfl⟩

theorem kindOf_BuiltinType (p : Value) (w : World) : Calls Tryz.prog 16 #[.iface 43 p] w fun e w' => e = .returned (.string ⟨#[66, 117, 105, 108, 116, 105, 110, 84, 121, 112, 101]⟩) ∧ w = w' := by
  have q0 : ∀ (p : Value) (w : World), (Instr.typeAssert (.iface 43 p) 32 40 true).run Tryz.prog w = .ok (.tuple #[.pointer none, .bool false]) w := fun _ _ => by kernel_rfl
  have qy : ∀ (p : Value) (w : World), (Instr.typeAssert (.iface 43 p) 32 43 true).run Tryz.prog w = .ok (.tuple #[p, .bool true]) w := fun _ _ => by kernel_rfl
  go_enter Tryz.func16, Tryz.ntmps16
  go_wp2_with fail
  go_ret
  exact ⟨rfl, rfl⟩

theorem kindOf_Operator (p : Value) (w : World) : Calls Tryz.prog 16 #[.iface 45 p] w fun e w' => e = .returned (.string ⟨#[79, 112, 101, 114, 97, 116, 111, 114]⟩) ∧ w = w' := by
  have q0 : ∀ (p : Value) (w : World), (Instr.typeAssert (.iface 45 p) 32 40 true).run Tryz.prog w = .ok (.tuple #[.pointer none, .bool false]) w := fun _ _ => by kernel_rfl
  have q1 : ∀ (p : Value) (w : World), (Instr.typeAssert (.iface 45 p) 32 43 true).run Tryz.prog w = .ok (.tuple #[.pointer none, .bool false]) w := fun _ _ => by kernel_rfl
  have qy : ∀ (p : Value) (w : World), (Instr.typeAssert (.iface 45 p) 32 45 true).run Tryz.prog w = .ok (.tuple #[p, .bool true]) w := fun _ _ => by kernel_rfl
  go_enter Tryz.func16, Tryz.ntmps16
  go_wp2_with fail
  go_ret
  exact ⟨rfl, rfl⟩

theorem kindOf_PointerType (p : Value) (w : World) : Calls Tryz.prog 16 #[.iface 70 p] w fun e w' => e = .returned (.string ⟨#[80, 111, 105, 110, 116, 101, 114, 84, 121, 112, 101]⟩) ∧ w = w' := by
  have q0 : ∀ (p : Value) (w : World), (Instr.typeAssert (.iface 70 p) 32 40 true).run Tryz.prog w = .ok (.tuple #[.pointer none, .bool false]) w := fun _ _ => by kernel_rfl
  have q1 : ∀ (p : Value) (w : World), (Instr.typeAssert (.iface 70 p) 32 43 true).run Tryz.prog w = .ok (.tuple #[.pointer none, .bool false]) w := fun _ _ => by kernel_rfl
  have q2 : ∀ (p : Value) (w : World), (Instr.typeAssert (.iface 70 p) 32 45 true).run Tryz.prog w = .ok (.tuple #[.pointer none, .bool false]) w := fun _ _ => by kernel_rfl
  have q3 : ∀ (p : Value) (w : World), (Instr.typeAssert (.iface 70 p) 32 49 true).run Tryz.prog w = .ok (.tuple #[.pointer none, .bool false]) w := fun _ _ => by kernel_rfl
  have q4 : ∀ (p : Value) (w : World), (Instr.typeAssert (.iface 70 p) 32 53 true).run Tryz.prog w = .ok (.tuple #[.pointer none, .bool false]) w := fun _ _ => by kernel_rfl
  have q5 : ∀ (p : Value) (w : World), (Instr.typeAssert (.iface 70 p) 32 56 true).run Tryz.prog w = .ok (.tuple #[.pointer none, .bool false]) w := fun _ _ => by kernel_rfl
  have q6 : ∀ (p : Value) (w : World), (Instr.typeAssert (.iface 70 p) 32 59 true).run Tryz.prog w = .ok (.tuple #[.pointer none, .bool false]) w := fun _ _ => by kernel_rfl
  have q7 : ∀ (p : Value) (w : World), (Instr.typeAssert (.iface 70 p) 32 64 true).run Tryz.prog w = .ok (.tuple #[.pointer none, .bool false]) w := fun _ _ => by kernel_rfl
  have q8 : ∀ (p : Value) (w : World), (Instr.typeAssert (.iface 70 p) 32 67 true).run Tryz.prog w = .ok (.tuple #[.pointer none, .bool false]) w := fun _ _ => by kernel_rfl
  have qy : ∀ (p : Value) (w : World), (Instr.typeAssert (.iface 70 p) 32 70 true).run Tryz.prog w = .ok (.tuple #[p, .bool true]) w := fun _ _ => by kernel_rfl
  go_enter Tryz.func16, Tryz.ntmps16
  go_wp2_with fail
  go_ret
  exact ⟨rfl, rfl⟩

theorem kindOf_ReferenceType (p : Value) (w : World) : Calls Tryz.prog 16 #[.iface 73 p] w fun e w' => e = .returned (.string ⟨#[82, 101, 102, 101, 114, 101, 110, 99, 101, 84, 121, 112, 101]⟩) ∧ w = w' := by
  have q0 : ∀ (p : Value) (w : World), (Instr.typeAssert (.iface 73 p) 32 40 true).run Tryz.prog w = .ok (.tuple #[.pointer none, .bool false]) w := fun _ _ => by kernel_rfl
  have q1 : ∀ (p : Value) (w : World), (Instr.typeAssert (.iface 73 p) 32 43 true).run Tryz.prog w = .ok (.tuple #[.pointer none, .bool false]) w := fun _ _ => by kernel_rfl
  have q2 : ∀ (p : Value) (w : World), (Instr.typeAssert (.iface 73 p) 32 45 true).run Tryz.prog w = .ok (.tuple #[.pointer none, .bool false]) w := fun _ _ => by kernel_rfl
  have q3 : ∀ (p : Value) (w : World), (Instr.typeAssert (.iface 73 p) 32 49 true).run Tryz.prog w = .ok (.tuple #[.pointer none, .bool false]) w := fun _ _ => by kernel_rfl
  have q4 : ∀ (p : Value) (w : World), (Instr.typeAssert (.iface 73 p) 32 53 true).run Tryz.prog w = .ok (.tuple #[.pointer none, .bool false]) w := fun _ _ => by kernel_rfl
  have q5 : ∀ (p : Value) (w : World), (Instr.typeAssert (.iface 73 p) 32 56 true).run Tryz.prog w = .ok (.tuple #[.pointer none, .bool false]) w := fun _ _ => by kernel_rfl
  have q6 : ∀ (p : Value) (w : World), (Instr.typeAssert (.iface 73 p) 32 59 true).run Tryz.prog w = .ok (.tuple #[.pointer none, .bool false]) w := fun _ _ => by kernel_rfl
  have q7 : ∀ (p : Value) (w : World), (Instr.typeAssert (.iface 73 p) 32 64 true).run Tryz.prog w = .ok (.tuple #[.pointer none, .bool false]) w := fun _ _ => by kernel_rfl
  have q8 : ∀ (p : Value) (w : World), (Instr.typeAssert (.iface 73 p) 32 67 true).run Tryz.prog w = .ok (.tuple #[.pointer none, .bool false]) w := fun _ _ => by kernel_rfl
  have q9 : ∀ (p : Value) (w : World), (Instr.typeAssert (.iface 73 p) 32 70 true).run Tryz.prog w = .ok (.tuple #[.pointer none, .bool false]) w := fun _ _ => by kernel_rfl
  have qy : ∀ (p : Value) (w : World), (Instr.typeAssert (.iface 73 p) 32 73 true).run Tryz.prog w = .ok (.tuple #[p, .bool true]) w := fun _ _ => by kernel_rfl
  go_enter Tryz.func16, Tryz.ntmps16
  go_wp2_with fail
  go_ret
  exact ⟨rfl, rfl⟩

theorem kindOf_RvalueReferenceType (p : Value) (w : World) : Calls Tryz.prog 16 #[.iface 75 p] w fun e w' => e = .returned (.string ⟨#[82, 118, 97, 108, 117, 101, 82, 101, 102, 101, 114, 101, 110, 99, 101, 84, 121, 112, 101]⟩) ∧ w = w' := by
  have q0 : ∀ (p : Value) (w : World), (Instr.typeAssert (.iface 75 p) 32 40 true).run Tryz.prog w = .ok (.tuple #[.pointer none, .bool false]) w := fun _ _ => by kernel_rfl
  have q1 : ∀ (p : Value) (w : World), (Instr.typeAssert (.iface 75 p) 32 43 true).run Tryz.prog w = .ok (.tuple #[.pointer none, .bool false]) w := fun _ _ => by kernel_rfl
  have q2 : ∀ (p : Value) (w : World), (Instr.typeAssert (.iface 75 p) 32 45 true).run Tryz.prog w = .ok (.tuple #[.pointer none, .bool false]) w := fun _ _ => by kernel_rfl
  have q3 : ∀ (p : Value) (w : World), (Instr.typeAssert (.iface 75 p) 32 49 true).run Tryz.prog w = .ok (.tuple #[.pointer none, .bool false]) w := fun _ _ => by kernel_rfl
  have q4 : ∀ (p : Value) (w : World), (Instr.typeAssert (.iface 75 p) 32 53 true).run Tryz.prog w = .ok (.tuple #[.pointer none, .bool false]) w := fun _ _ => by kernel_rfl
  have q5 : ∀ (p : Value) (w : World), (Instr.typeAssert (.iface 75 p) 32 56 true).run Tryz.prog w = .ok (.tuple #[.pointer none, .bool false]) w := fun _ _ => by kernel_rfl
  have q6 : ∀ (p : Value) (w : World), (Instr.typeAssert (.iface 75 p) 32 59 true).run Tryz.prog w = .ok (.tuple #[.pointer none, .bool false]) w := fun _ _ => by kernel_rfl
  have q7 : ∀ (p : Value) (w : World), (Instr.typeAssert (.iface 75 p) 32 64 true).run Tryz.prog w = .ok (.tuple #[.pointer none, .bool false]) w := fun _ _ => by kernel_rfl
  have q8 : ∀ (p : Value) (w : World), (Instr.typeAssert (.iface 75 p) 32 67 true).run Tryz.prog w = .ok (.tuple #[.pointer none, .bool false]) w := fun _ _ => by kernel_rfl
  have q9 : ∀ (p : Value) (w : World), (Instr.typeAssert (.iface 75 p) 32 70 true).run Tryz.prog w = .ok (.tuple #[.pointer none, .bool false]) w := fun _ _ => by kernel_rfl
  have q10 : ∀ (p : Value) (w : World), (Instr.typeAssert (.iface 75 p) 32 73 true).run Tryz.prog w = .ok (.tuple #[.pointer none, .bool false]) w := fun _ _ => by kernel_rfl
  have qy : ∀ (p : Value) (w : World), (Instr.typeAssert (.iface 75 p) 32 75 true).run Tryz.prog w = .ok (.tuple #[p, .bool true]) w := fun _ _ => by kernel_rfl
  go_enter Tryz.func16, Tryz.ntmps16
  go_wp2_with fail
  go_ret
  exact ⟨rfl, rfl⟩

theorem kindOf_ComplexType (p : Value) (w : World) : Calls Tryz.prog 16 #[.iface 77 p] w fun e w' => e = .returned (.string ⟨#[67, 111, 109, 112, 108, 101, 120, 84, 121, 112, 101]⟩) ∧ w = w' := by
  have q0 : ∀ (p : Value) (w : World), (Instr.typeAssert (.iface 77 p) 32 40 true).run Tryz.prog w = .ok (.tuple #[.pointer none, .bool false]) w := fun _ _ => by kernel_rfl
  have q1 : ∀ (p : Value) (w : World), (Instr.typeAssert (.iface 77 p) 32 43 true).run Tryz.prog w = .ok (.tuple #[.pointer none, .bool false]) w := fun _ _ => by kernel_rfl
  have q2 : ∀ (p : Value) (w : World), (Instr.typeAssert (.iface 77 p) 32 45 true).run Tryz.prog w = .ok (.tuple #[.pointer none, .bool false]) w := fun _ _ => by kernel_rfl
  have q3 : ∀ (p : Value) (w : World), (Instr.typeAssert (.iface 77 p) 32 49 true).run Tryz.prog w = .ok (.tuple #[.pointer none, .bool false]) w := fun _ _ => by kernel_rfl
  have q4 : ∀ (p : Value) (w : World), (Instr.typeAssert (.iface 77 p) 32 53 true).run Tryz.prog w = .ok (.tuple #[.pointer none, .bool false]) w := fun _ _ => by kernel_rfl
  have q5 : ∀ (p : Value) (w : World), (Instr.typeAssert (.iface 77 p) 32 56 true).run Tryz.prog w = .ok (.tuple #[.pointer none, .bool false]) w := fun _ _ => by kernel_rfl
  have q6 : ∀ (p : Value) (w : World), (Instr.typeAssert (.iface 77 p) 32 59 true).run Tryz.prog w = .ok (.tuple #[.pointer none, .bool false]) w := fun _ _ => by kernel_rfl
  have q7 : ∀ (p : Value) (w : World), (Instr.typeAssert (.iface 77 p) 32 64 true).run Tryz.prog w = .ok (.tuple #[.pointer none, .bool false]) w := fun _ _ => by kernel_rfl
  have q8 : ∀ (p : Value) (w : World), (Instr.typeAssert (.iface 77 p) 32 67 true).run Tryz.prog w = .ok (.tuple #[.pointer none, .bool false]) w := fun _ _ => by kernel_rfl
  have q9 : ∀ (p : Value) (w : World), (Instr.typeAssert (.iface 77 p) 32 70 true).run Tryz.prog w = .ok (.tuple #[.pointer none, .bool false]) w := fun _ _ => by kernel_rfl
  have q10 : ∀ (p : Value) (w : World), (Instr.typeAssert (.iface 77 p) 32 73 true).run Tryz.prog w = .ok (.tuple #[.pointer none, .bool false]) w := fun _ _ => by kernel_rfl
  have q11 : ∀ (p : Value) (w : World), (Instr.typeAssert (.iface 77 p) 32 75 true).run Tryz.prog w = .ok (.tuple #[.pointer none, .bool false]) w := fun _ _ => by kernel_rfl
  have qy : ∀ (p : Value) (w : World), (Instr.typeAssert (.iface 77 p) 32 77 true).run Tryz.prog w = .ok (.tuple #[p, .bool true]) w := fun _ _ => by kernel_rfl
  go_enter Tryz.func16, Tryz.ntmps16
  go_wp2_with fail
  go_ret
  exact ⟨rfl, rfl⟩

theorem kindOf_ImaginaryType (p : Value) (w : World) : Calls Tryz.prog 16 #[.iface 79 p] w fun e w' => e = .returned (.string ⟨#[73, 109, 97, 103, 105, 110, 97, 114, 121, 84, 121, 112, 101]⟩) ∧ w = w' := by
  have q0 : ∀ (p : Value) (w : World), (Instr.typeAssert (.iface 79 p) 32 40 true).run Tryz.prog w = .ok (.tuple #[.pointer none, .bool false]) w := fun _ _ => by kernel_rfl
  have q1 : ∀ (p : Value) (w : World), (Instr.typeAssert (.iface 79 p) 32 43 true).run Tryz.prog w = .ok (.tuple #[.pointer none, .bool false]) w := fun _ _ => by kernel_rfl
  have q2 : ∀ (p : Value) (w : World), (Instr.typeAssert (.iface 79 p) 32 45 true).run Tryz.prog w = .ok (.tuple #[.pointer none, .bool false]) w := fun _ _ => by kernel_rfl
  have q3 : ∀ (p : Value) (w : World), (Instr.typeAssert (.iface 79 p) 32 49 true).run Tryz.prog w = .ok (.tuple #[.pointer none, .bool false]) w := fun _ _ => by kernel_rfl
  have q4 : ∀ (p : Value) (w : World), (Instr.typeAssert (.iface 79 p) 32 53 true).run Tryz.prog w = .ok (.tuple #[.pointer none, .bool false]) w := fun _ _ => by kernel_rfl
  have q5 : ∀ (p : Value) (w : World), (Instr.typeAssert (.iface 79 p) 32 56 true).run Tryz.prog w = .ok (.tuple #[.pointer none, .bool false]) w := fun _ _ => by kernel_rfl
  have q6 : ∀ (p : Value) (w : World), (Instr.typeAssert (.iface 79 p) 32 59 true).run Tryz.prog w = .ok (.tuple #[.pointer none, .bool false]) w := fun _ _ => by kernel_rfl
  have q7 : ∀ (p : Value) (w : World), (Instr.typeAssert (.iface 79 p) 32 64 true).run Tryz.prog w = .ok (.tuple #[.pointer none, .bool false]) w := fun _ _ => by kernel_rfl
  have q8 : ∀ (p : Value) (w : World), (Instr.typeAssert (.iface 79 p) 32 67 true).run Tryz.prog w = .ok (.tuple #[.pointer none, .bool false]) w := fun _ _ => by kernel_rfl
  have q9 : ∀ (p : Value) (w : World), (Instr.typeAssert (.iface 79 p) 32 70 true).run Tryz.prog w = .ok (.tuple #[.pointer none, .bool false]) w := fun _ _ => by kernel_rfl
  have q10 : ∀ (p : Value) (w : World), (Instr.typeAssert (.iface 79 p) 32 73 true).run Tryz.prog w = .ok (.tuple #[.pointer none, .bool false]) w := fun _ _ => by kernel_rfl
  have q11 : ∀ (p : Value) (w : World), (Instr.typeAssert (.iface 79 p) 32 75 true).run Tryz.prog w = .ok (.tuple #[.pointer none, .bool false]) w := fun _ _ => by kernel_rfl
  have q12 : ∀ (p : Value) (w : World), (Instr.typeAssert (.iface 79 p) 32 77 true).run Tryz.prog w = .ok (.tuple #[.pointer none, .bool false]) w := fun _ _ => by kernel_rfl
  have qy : ∀ (p : Value) (w : World), (Instr.typeAssert (.iface 79 p) 32 79 true).run Tryz.prog w = .ok (.tuple #[p, .bool true]) w := fun _ _ => by kernel_rfl
  go_enter Tryz.func16, Tryz.ntmps16
  go_wp2_with fail
  go_ret
  exact ⟨rfl, rfl⟩

theorem kindOf_Constructor (p : Value) (w : World) : Calls Tryz.prog 16 #[.iface 49 p] w fun e w' => e = .returned (.string ⟨#[67, 111, 110, 115, 116, 114, 117, 99, 116, 111, 114]⟩) ∧ w = w' := by
  have q0 : ∀ (p : Value) (w : World), (Instr.typeAssert (.iface 49 p) 32 40 true).run Tryz.prog w = .ok (.tuple #[.pointer none, .bool false]) w := fun _ _ => by kernel_rfl
  have q1 : ∀ (p : Value) (w : World), (Instr.typeAssert (.iface 49 p) 32 43 true).run Tryz.prog w = .ok (.tuple #[.pointer none, .bool false]) w := fun _ _ => by kernel_rfl
  have q2 : ∀ (p : Value) (w : World), (Instr.typeAssert (.iface 49 p) 32 45 true).run Tryz.prog w = .ok (.tuple #[.pointer none, .bool false]) w := fun _ _ => by kernel_rfl
  have qy : ∀ (p : Value) (w : World), (Instr.typeAssert (.iface 49 p) 32 49 true).run Tryz.prog w = .ok (.tuple #[p, .bool true]) w := fun _ _ => by kernel_rfl
  go_enter Tryz.func16, Tryz.ntmps16
  go_wp2_with fail
  go_ret
  exact ⟨rfl, rfl⟩

theorem kindOf_Destructor (p : Value) (w : World) : Calls Tryz.prog 16 #[.iface 53 p] w fun e w' => e = .returned (.string ⟨#[68, 101, 115, 116, 114, 117, 99, 116, 111, 114]⟩) ∧ w = w' := by
  have q0 : ∀ (p : Value) (w : World), (Instr.typeAssert (.iface 53 p) 32 40 true).run Tryz.prog w = .ok (.tuple #[.pointer none, .bool false]) w := fun _ _ => by kernel_rfl
  have q1 : ∀ (p : Value) (w : World), (Instr.typeAssert (.iface 53 p) 32 43 true).run Tryz.prog w = .ok (.tuple #[.pointer none, .bool false]) w := fun _ _ => by kernel_rfl
  have q2 : ∀ (p : Value) (w : World), (Instr.typeAssert (.iface 53 p) 32 45 true).run Tryz.prog w = .ok (.tuple #[.pointer none, .bool false]) w := fun _ _ => by kernel_rfl
  have q3 : ∀ (p : Value) (w : World), (Instr.typeAssert (.iface 53 p) 32 49 true).run Tryz.prog w = .ok (.tuple #[.pointer none, .bool false]) w := fun _ _ => by kernel_rfl
  have qy : ∀ (p : Value) (w : World), (Instr.typeAssert (.iface 53 p) 32 53 true).run Tryz.prog w = .ok (.tuple #[p, .bool true]) w := fun _ _ => by kernel_rfl
  go_enter Tryz.func16, Tryz.ntmps16
  go_wp2_with fail
  go_ret
  exact ⟨rfl, rfl⟩

theorem kindOf_Qualified (p : Value) (w : World) : Calls Tryz.prog 16 #[.iface 56 p] w fun e w' => e = .returned (.string ⟨#[81, 117, 97, 108, 105, 102, 105, 101, 100]⟩) ∧ w = w' := by
  have q0 : ∀ (p : Value) (w : World), (Instr.typeAssert (.iface 56 p) 32 40 true).run Tryz.prog w = .ok (.tuple #[.pointer none, .bool false]) w := fun _ _ => by kernel_rfl
  have q1 : ∀ (p : Value) (w : World), (Instr.typeAssert (.iface 56 p) 32 43 true).run Tryz.prog w = .ok (.tuple #[.pointer none, .bool false]) w := fun _ _ => by kernel_rfl
  have q2 : ∀ (p : Value) (w : World), (Instr.typeAssert (.iface 56 p) 32 45 true).run Tryz.prog w = .ok (.tuple #[.pointer none, .bool false]) w := fun _ _ => by kernel_rfl
  have q3 : ∀ (p : Value) (w : World), (Instr.typeAssert (.iface 56 p) 32 49 true).run Tryz.prog w = .ok (.tuple #[.pointer none, .bool false]) w := fun _ _ => by kernel_rfl
  have q4 : ∀ (p : Value) (w : World), (Instr.typeAssert (.iface 56 p) 32 53 true).run Tryz.prog w = .ok (.tuple #[.pointer none, .bool false]) w := fun _ _ => by kernel_rfl
  have qy : ∀ (p : Value) (w : World), (Instr.typeAssert (.iface 56 p) 32 56 true).run Tryz.prog w = .ok (.tuple #[p, .bool true]) w := fun _ _ => by kernel_rfl
  go_enter Tryz.func16, Tryz.ntmps16
  go_wp2_with fail
  go_ret
  exact ⟨rfl, rfl⟩

theorem kindOf_Typed (p : Value) (w : World) : Calls Tryz.prog 16 #[.iface 64 p] w fun e w' => e = .returned (.string ⟨#[84, 121, 112, 101, 100]⟩) ∧ w = w' := by
  have q0 : ∀ (p : Value) (w : World), (Instr.typeAssert (.iface 64 p) 32 40 true).run Tryz.prog w = .ok (.tuple #[.pointer none, .bool false]) w := fun _ _ => by kernel_rfl
  have q1 : ∀ (p : Value) (w : World), (Instr.typeAssert (.iface 64 p) 32 43 true).run Tryz.prog w = .ok (.tuple #[.pointer none, .bool false]) w := fun _ _ => by kernel_rfl
  have q2 : ∀ (p : Value) (w : World), (Instr.typeAssert (.iface 64 p) 32 45 true).run Tryz.prog w = .ok (.tuple #[.pointer none, .bool false]) w := fun _ _ => by kernel_rfl
  have q3 : ∀ (p : Value) (w : World), (Instr.typeAssert (.iface 64 p) 32 49 true).run Tryz.prog w = .ok (.tuple #[.pointer none, .bool false]) w := fun _ _ => by kernel_rfl
  have q4 : ∀ (p : Value) (w : World), (Instr.typeAssert (.iface 64 p) 32 53 true).run Tryz.prog w = .ok (.tuple #[.pointer none, .bool false]) w := fun _ _ => by kernel_rfl
  have q5 : ∀ (p : Value) (w : World), (Instr.typeAssert (.iface 64 p) 32 56 true).run Tryz.prog w = .ok (.tuple #[.pointer none, .bool false]) w := fun _ _ => by kernel_rfl
  have q6 : ∀ (p : Value) (w : World), (Instr.typeAssert (.iface 64 p) 32 59 true).run Tryz.prog w = .ok (.tuple #[.pointer none, .bool false]) w := fun _ _ => by kernel_rfl
  have qy : ∀ (p : Value) (w : World), (Instr.typeAssert (.iface 64 p) 32 64 true).run Tryz.prog w = .ok (.tuple #[p, .bool true]) w := fun _ _ => by kernel_rfl
  go_enter Tryz.func16, Tryz.ntmps16
  go_wp2_with fail
  go_ret
  exact ⟨rfl, rfl⟩

theorem kindOf_TypeWithQualifiers (p : Value) (w : World) : Calls Tryz.prog 16 #[.iface 81 p] w fun e w' => e = .returned (.string ⟨#[84, 121, 112, 101, 87, 105, 116, 104, 81, 117, 97, 108, 105, 102, 105, 101, 114, 115]⟩) ∧ w = w' := by
  have q0 : ∀ (p : Value) (w : World), (Instr.typeAssert (.iface 81 p) 32 40 true).run Tryz.prog w = .ok (.tuple #[.pointer none, .bool false]) w := fun _ _ => by kernel_rfl
  have q1 : ∀ (p : Value) (w : World), (Instr.typeAssert (.iface 81 p) 32 43 true).run Tryz.prog w = .ok (.tuple #[.pointer none, .bool false]) w := fun _ _ => by kernel_rfl
  have q2 : ∀ (p : Value) (w : World), (Instr.typeAssert (.iface 81 p) 32 45 true).run Tryz.prog w = .ok (.tuple #[.pointer none, .bool false]) w := fun _ _ => by kernel_rfl
  have q3 : ∀ (p : Value) (w : World), (Instr.typeAssert (.iface 81 p) 32 49 true).run Tryz.prog w = .ok (.tuple #[.pointer none, .bool false]) w := fun _ _ => by kernel_rfl
  have q4 : ∀ (p : Value) (w : World), (Instr.typeAssert (.iface 81 p) 32 53 true).run Tryz.prog w = .ok (.tuple #[.pointer none, .bool false]) w := fun _ _ => by kernel_rfl
  have q5 : ∀ (p : Value) (w : World), (Instr.typeAssert (.iface 81 p) 32 56 true).run Tryz.prog w = .ok (.tuple #[.pointer none, .bool false]) w := fun _ _ => by kernel_rfl
  have q6 : ∀ (p : Value) (w : World), (Instr.typeAssert (.iface 81 p) 32 59 true).run Tryz.prog w = .ok (.tuple #[.pointer none, .bool false]) w := fun _ _ => by kernel_rfl
  have q7 : ∀ (p : Value) (w : World), (Instr.typeAssert (.iface 81 p) 32 64 true).run Tryz.prog w = .ok (.tuple #[.pointer none, .bool false]) w := fun _ _ => by kernel_rfl
  have q8 : ∀ (p : Value) (w : World), (Instr.typeAssert (.iface 81 p) 32 67 true).run Tryz.prog w = .ok (.tuple #[.pointer none, .bool false]) w := fun _ _ => by kernel_rfl
  have q9 : ∀ (p : Value) (w : World), (Instr.typeAssert (.iface 81 p) 32 70 true).run Tryz.prog w = .ok (.tuple #[.pointer none, .bool false]) w := fun _ _ => by kernel_rfl
  have q10 : ∀ (p : Value) (w : World), (Instr.typeAssert (.iface 81 p) 32 73 true).run Tryz.prog w = .ok (.tuple #[.pointer none, .bool false]) w := fun _ _ => by kernel_rfl
  have q11 : ∀ (p : Value) (w : World), (Instr.typeAssert (.iface 81 p) 32 75 true).run Tryz.prog w = .ok (.tuple #[.pointer none, .bool false]) w := fun _ _ => by kernel_rfl
  have q12 : ∀ (p : Value) (w : World), (Instr.typeAssert (.iface 81 p) 32 77 true).run Tryz.prog w = .ok (.tuple #[.pointer none, .bool false]) w := fun _ _ => by kernel_rfl
  have q13 : ∀ (p : Value) (w : World), (Instr.typeAssert (.iface 81 p) 32 79 true).run Tryz.prog w = .ok (.tuple #[.pointer none, .bool false]) w := fun _ _ => by kernel_rfl
  have qy : ∀ (p : Value) (w : World), (Instr.typeAssert (.iface 81 p) 32 81 true).run Tryz.prog w = .ok (.tuple #[p, .bool true]) w := fun _ _ => by kernel_rfl
  go_enter Tryz.func16, Tryz.ntmps16
  go_wp2_with fail
  go_ret
  exact ⟨rfl, rfl⟩

theorem kindOf_MethodWithQualifiers (p : Value) (w : World) : Calls Tryz.prog 16 #[.iface 90 p] w fun e w' => e = .returned (.string ⟨#[77, 101, 116, 104, 111, 100, 87, 105, 116, 104, 81, 117, 97, 108, 105, 102, 105, 101, 114, 115]⟩) ∧ w = w' := by
  have q0 : ∀ (p : Value) (w : World), (Instr.typeAssert (.iface 90 p) 32 40 true).run Tryz.prog w = .ok (.tuple #[.pointer none, .bool false]) w := fun _ _ => by kernel_rfl
  have q1 : ∀ (p : Value) (w : World), (Instr.typeAssert (.iface 90 p) 32 43 true).run Tryz.prog w = .ok (.tuple #[.pointer none, .bool false]) w := fun _ _ => by kernel_rfl
  have q2 : ∀ (p : Value) (w : World), (Instr.typeAssert (.iface 90 p) 32 45 true).run Tryz.prog w = .ok (.tuple #[.pointer none, .bool false]) w := fun _ _ => by kernel_rfl
  have q3 : ∀ (p : Value) (w : World), (Instr.typeAssert (.iface 90 p) 32 49 true).run Tryz.prog w = .ok (.tuple #[.pointer none, .bool false]) w := fun _ _ => by kernel_rfl
  have q4 : ∀ (p : Value) (w : World), (Instr.typeAssert (.iface 90 p) 32 53 true).run Tryz.prog w = .ok (.tuple #[.pointer none, .bool false]) w := fun _ _ => by kernel_rfl
  have q5 : ∀ (p : Value) (w : World), (Instr.typeAssert (.iface 90 p) 32 56 true).run Tryz.prog w = .ok (.tuple #[.pointer none, .bool false]) w := fun _ _ => by kernel_rfl
  have q6 : ∀ (p : Value) (w : World), (Instr.typeAssert (.iface 90 p) 32 59 true).run Tryz.prog w = .ok (.tuple #[.pointer none, .bool false]) w := fun _ _ => by kernel_rfl
  have q7 : ∀ (p : Value) (w : World), (Instr.typeAssert (.iface 90 p) 32 64 true).run Tryz.prog w = .ok (.tuple #[.pointer none, .bool false]) w := fun _ _ => by kernel_rfl
  have q8 : ∀ (p : Value) (w : World), (Instr.typeAssert (.iface 90 p) 32 67 true).run Tryz.prog w = .ok (.tuple #[.pointer none, .bool false]) w := fun _ _ => by kernel_rfl
  have q9 : ∀ (p : Value) (w : World), (Instr.typeAssert (.iface 90 p) 32 70 true).run Tryz.prog w = .ok (.tuple #[.pointer none, .bool false]) w := fun _ _ => by kernel_rfl
  have q10 : ∀ (p : Value) (w : World), (Instr.typeAssert (.iface 90 p) 32 73 true).run Tryz.prog w = .ok (.tuple #[.pointer none, .bool false]) w := fun _ _ => by kernel_rfl
  have q11 : ∀ (p : Value) (w : World), (Instr.typeAssert (.iface 90 p) 32 75 true).run Tryz.prog w = .ok (.tuple #[.pointer none, .bool false]) w := fun _ _ => by kernel_rfl
  have q12 : ∀ (p : Value) (w : World), (Instr.typeAssert (.iface 90 p) 32 77 true).run Tryz.prog w = .ok (.tuple #[.pointer none, .bool false]) w := fun _ _ => by kernel_rfl
  have q13 : ∀ (p : Value) (w : World), (Instr.typeAssert (.iface 90 p) 32 79 true).run Tryz.prog w = .ok (.tuple #[.pointer none, .bool false]) w := fun _ _ => by kernel_rfl
  have q14 : ∀ (p : Value) (w : World), (Instr.typeAssert (.iface 90 p) 32 81 true).run Tryz.prog w = .ok (.tuple #[.pointer none, .bool false]) w := fun _ _ => by kernel_rfl
  have q15 : ∀ (p : Value) (w : World), (Instr.typeAssert (.iface 90 p) 32 84 true).run Tryz.prog w = .ok (.tuple #[.pointer none, .bool false]) w := fun _ _ => by kernel_rfl
  have q16 : ∀ (p : Value) (w : World), (Instr.typeAssert (.iface 90 p) 32 87 true).run Tryz.prog w = .ok (.tuple #[.pointer none, .bool false]) w := fun _ _ => by kernel_rfl
  have qy : ∀ (p : Value) (w : World), (Instr.typeAssert (.iface 90 p) 32 90 true).run Tryz.prog w = .ok (.tuple #[p, .bool true]) w := fun _ _ => by kernel_rfl
  go_enter Tryz.func16, Tryz.ntmps16
  go_wp2_with fail
  go_ret
  exact ⟨rfl, rfl⟩

theorem kindOf_Template (p : Value) (w : World) : Calls Tryz.prog 16 #[.iface 59 p] w fun e w' => e = .returned (.string ⟨#[84, 101, 109, 112, 108, 97, 116, 101]⟩) ∧ w = w' := by
  have q0 : ∀ (p : Value) (w : World), (Instr.typeAssert (.iface 59 p) 32 40 true).run Tryz.prog w = .ok (.tuple #[.pointer none, .bool false]) w := fun _ _ => by kernel_rfl
  have q1 : ∀ (p : Value) (w : World), (Instr.typeAssert (.iface 59 p) 32 43 true).run Tryz.prog w = .ok (.tuple #[.pointer none, .bool false]) w := fun _ _ => by kernel_rfl
  have q2 : ∀ (p : Value) (w : World), (Instr.typeAssert (.iface 59 p) 32 45 true).run Tryz.prog w = .ok (.tuple #[.pointer none, .bool false]) w := fun _ _ => by kernel_rfl
  have q3 : ∀ (p : Value) (w : World), (Instr.typeAssert (.iface 59 p) 32 49 true).run Tryz.prog w = .ok (.tuple #[.pointer none, .bool false]) w := fun _ _ => by kernel_rfl
  have q4 : ∀ (p : Value) (w : World), (Instr.typeAssert (.iface 59 p) 32 53 true).run Tryz.prog w = .ok (.tuple #[.pointer none, .bool false]) w := fun _ _ => by kernel_rfl
  have q5 : ∀ (p : Value) (w : World), (Instr.typeAssert (.iface 59 p) 32 56 true).run Tryz.prog w = .ok (.tuple #[.pointer none, .bool false]) w := fun _ _ => by kernel_rfl
  have qy : ∀ (p : Value) (w : World), (Instr.typeAssert (.iface 59 p) 32 59 true).run Tryz.prog w = .ok (.tuple #[p, .bool true]) w := fun _ _ => by kernel_rfl
  go_enter Tryz.func16, Tryz.ntmps16
  go_wp2_with fail
  go_ret
  exact ⟨rfl, rfl⟩

theorem kindOf_FunctionType (p : Value) (w : World) : Calls Tryz.prog 16 #[.iface 67 p] w fun e w' => e = .returned (.string ⟨#[70, 117, 110, 99, 116, 105, 111, 110, 84, 121, 112, 101]⟩) ∧ w = w' := by
  have q0 : ∀ (p : Value) (w : World), (Instr.typeAssert (.iface 67 p) 32 40 true).run Tryz.prog w = .ok (.tuple #[.pointer none, .bool false]) w := fun _ _ => by kernel_rfl
  have q1 : ∀ (p : Value) (w : World), (Instr.typeAssert (.iface 67 p) 32 43 true).run Tryz.prog w = .ok (.tuple #[.pointer none, .bool false]) w := fun _ _ => by kernel_rfl
  have q2 : ∀ (p : Value) (w : World), (Instr.typeAssert (.iface 67 p) 32 45 true).run Tryz.prog w = .ok (.tuple #[.pointer none, .bool false]) w := fun _ _ => by kernel_rfl
  have q3 : ∀ (p : Value) (w : World), (Instr.typeAssert (.iface 67 p) 32 49 true).run Tryz.prog w = .ok (.tuple #[.pointer none, .bool false]) w := fun _ _ => by kernel_rfl
  have q4 : ∀ (p : Value) (w : World), (Instr.typeAssert (.iface 67 p) 32 53 true).run Tryz.prog w = .ok (.tuple #[.pointer none, .bool false]) w := fun _ _ => by kernel_rfl
  have q5 : ∀ (p : Value) (w : World), (Instr.typeAssert (.iface 67 p) 32 56 true).run Tryz.prog w = .ok (.tuple #[.pointer none, .bool false]) w := fun _ _ => by kernel_rfl
  have q6 : ∀ (p : Value) (w : World), (Instr.typeAssert (.iface 67 p) 32 59 true).run Tryz.prog w = .ok (.tuple #[.pointer none, .bool false]) w := fun _ _ => by kernel_rfl
  have q7 : ∀ (p : Value) (w : World), (Instr.typeAssert (.iface 67 p) 32 64 true).run Tryz.prog w = .ok (.tuple #[.pointer none, .bool false]) w := fun _ _ => by kernel_rfl
  have qy : ∀ (p : Value) (w : World), (Instr.typeAssert (.iface 67 p) 32 67 true).run Tryz.prog w = .ok (.tuple #[p, .bool true]) w := fun _ _ => by kernel_rfl
  go_enter Tryz.func16, Tryz.ntmps16
  go_wp2_with fail
  go_ret
  exact ⟨rfl, rfl⟩

end Go.Proofs.YtdlhhdhooacogaaGreatDoor

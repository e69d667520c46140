/-
  treeOf at leaves and elements of one.
-/
import Derived.Test.YtdlhhdhooacogaaGreatDoorYH
import Derived.Deep.RegionHeld3
namespace Go.Proofs.YtdlhhdhooacogaaGreatDoor
open Go.RowKit

theorem RowOf.slice {Es : Nat → ElemP} {f m lo : Nat} {w : World} {v : Value} (h : RowOf Es f m lo w v) : ∃ a cap, v = .slice a m cap := by
  obtain ⟨vs, hown, _⟩ := h
  rcases hown.2 with ⟨e, e'⟩ | ⟨g, cap, cur, e, _⟩
  · exact ⟨none, 0, by rw [e, e']⟩
  · exact ⟨_, _, e⟩

set_option maxRecDepth 100000 in
set_option maxHeartbeats 4000000 in
theorem to_Name (text : ByteArray) (num : Int) (a : Option Addr) (n cap : Nat) (w : World) :
    Calls Tryz.prog 14 #[.agg #[.string ⟨#[78, 97, 109, 101]⟩, .string text, .int .i64 num, .slice a n cap]] w (Made (Elem fun stop => ⟨#[78, 97, 109, 101]⟩ :: (if (⟨#[78, 97, 109, 101]⟩ : ByteArray) = stop then [] else [])) w) := by
  go_enter Tryz.func14, Tryz.ntmps14
  go_wp2_with fail
  go_ret
  exact mk_Name (below_new _ _) (by simp)

set_option maxRecDepth 100000 in
set_option maxHeartbeats 4000000 in
theorem to_BuiltinType (text : ByteArray) (num : Int) (a : Option Addr) (n cap : Nat) (w : World) :
    Calls Tryz.prog 14 #[.agg #[.string ⟨#[66, 117, 105, 108, 116, 105, 110, 84, 121, 112, 101]⟩, .string text, .int .i64 num, .slice a n cap]] w (Made (Elem fun stop => ⟨#[66, 117, 105, 108, 116, 105, 110, 84, 121, 112, 101]⟩ :: (if (⟨#[66, 117, 105, 108, 116, 105, 110, 84, 121, 112, 101]⟩ : ByteArray) = stop then [] else [])) w) := by
  go_enter Tryz.func14, Tryz.ntmps14
  go_wp2_with fail
  go_ret
  exact mk_BuiltinType (below_new _ _) (by simp)

set_option maxRecDepth 100000 in
set_option maxHeartbeats 4000000 in
theorem to_Operator (text : ByteArray) (num : Int) (a : Option Addr) (n cap : Nat) (w : World) :
    Calls Tryz.prog 14 #[.agg #[.string ⟨#[79, 112, 101, 114, 97, 116, 111, 114]⟩, .string text, .int .i64 num, .slice a n cap]] w (Made (Elem fun stop => ⟨#[79, 112, 101, 114, 97, 116, 111, 114]⟩ :: (if (⟨#[79, 112, 101, 114, 97, 116, 111, 114]⟩ : ByteArray) = stop then [] else [])) w) := by
  go_enter Tryz.func14, Tryz.ntmps14
  go_wp2_with fail
  go_ret
  exact mk_Operator (below_new _ _) (by simp)

set_option maxRecDepth 100000 in
set_option maxHeartbeats 4000000 in
theorem to_UnnamedType (text : ByteArray) (num : Int) (a : Option Addr) (n cap : Nat) (w : World) :
    Calls Tryz.prog 32 #[.agg #[.string ⟨#[85, 110, 110, 97, 109, 101, 100, 84, 121, 112, 101]⟩, .string text, .int .i64 num, .slice a n cap]] w (Made (Elem fun stop => ⟨#[85, 110, 110, 97, 109, 101, 100, 84, 121, 112, 101]⟩ :: (if (⟨#[85, 110, 110, 97, 109, 101, 100, 84, 121, 112, 101]⟩ : ByteArray) = stop then [] else [])) w) := by
  go_enter Tryz.func32, Tryz.ntmps32
  go_wp2_with fail
  go_ret
  exact mk_UnnamedType (below_new _ _) (by simp)

set_option maxRecDepth 100000 in
set_option maxHeartbeats 4000000 in
theorem to_PointerType (k : NT) (ks : ByteArray → List ByteArray) (hT : TreeC (Elem ks) k) (text : ByteArray) (num : Int) (a : Option Addr) (n cap : Nat) (w : World) (h : NV w [.string ⟨#[80, 111, 105, 110, 116, 101, 114, 84, 121, 112, 101]⟩, .string text, .int .i64 num, .slice a n cap] (.mk ⟨#[80, 111, 105, 110, 116, 101, 114, 84, 121, 112, 101]⟩ text num [k])) :
    Calls Tryz.prog 14 #[.agg #[.string ⟨#[80, 111, 105, 110, 116, 101, 114, 84, 121, 112, 101]⟩, .string text, .int .i64 num, .slice a n cap]] w (Made (Elem fun stop => ⟨#[80, 111, 105, 110, 116, 101, 114, 84, 121, 112, 101]⟩ :: (if (⟨#[80, 111, 105, 110, 116, 101, 114, 84, 121, 112, 101]⟩ : ByteArray) = stop then [] else ks stop)) w) := by
  have HT := Lib.hid hT
  have HB := Lib.hid (box_at h)
  have HW := Lib.hid (below_new w (.cells #[.string ⟨#[80, 111, 105, 110, 116, 101, 114, 84, 121, 112, 101]⟩, .string text, .int .i64 num, .slice a n cap] 24))
  clear hT h
  go_enter Tryz.func14, Tryz.ntmps14
  go_wp2_with fail
  refine (kid_of (Elem ks) [k] 0 (by simp) HT.out _ _ _ _ _ _ _ HB.out.nv).mono ?_
  rintro e w1 ⟨v, S, rfl, _, hS, hE, hb⟩
  obtain ⟨T', b', rfl⟩ := hE.shape (fun k hk => (hS k hk).2)
  have HS := Lib.hid hS
  have HE := Lib.hid hE
  have HBB := Lib.hid hb
  clear hS hE hb
  go_wp2_with fail
  go_ret
  exact mk_PointerType (behind HW.out HBB.out) rfl (fun k hk => by have := HS.out k hk; simp at this; omega) HE.out rfl

set_option maxRecDepth 100000 in
set_option maxHeartbeats 4000000 in
theorem to_ReferenceType (k : NT) (ks : ByteArray → List ByteArray) (hT : TreeC (Elem ks) k) (text : ByteArray) (num : Int) (a : Option Addr) (n cap : Nat) (w : World) (h : NV w [.string ⟨#[82, 101, 102, 101, 114, 101, 110, 99, 101, 84, 121, 112, 101]⟩, .string text, .int .i64 num, .slice a n cap] (.mk ⟨#[82, 101, 102, 101, 114, 101, 110, 99, 101, 84, 121, 112, 101]⟩ text num [k])) :
    Calls Tryz.prog 14 #[.agg #[.string ⟨#[82, 101, 102, 101, 114, 101, 110, 99, 101, 84, 121, 112, 101]⟩, .string text, .int .i64 num, .slice a n cap]] w (Made (Elem fun stop => ⟨#[82, 101, 102, 101, 114, 101, 110, 99, 101, 84, 121, 112, 101]⟩ :: (if (⟨#[82, 101, 102, 101, 114, 101, 110, 99, 101, 84, 121, 112, 101]⟩ : ByteArray) = stop then [] else ks stop)) w) := by
  have HT := Lib.hid hT
  have HB := Lib.hid (box_at h)
  have HW := Lib.hid (below_new w (.cells #[.string ⟨#[82, 101, 102, 101, 114, 101, 110, 99, 101, 84, 121, 112, 101]⟩, .string text, .int .i64 num, .slice a n cap] 24))
  clear hT h
  go_enter Tryz.func14, Tryz.ntmps14
  go_wp2_with fail
  refine (kid_of (Elem ks) [k] 0 (by simp) HT.out _ _ _ _ _ _ _ HB.out.nv).mono ?_
  rintro e w1 ⟨v, S, rfl, _, hS, hE, hb⟩
  obtain ⟨T', b', rfl⟩ := hE.shape (fun k hk => (hS k hk).2)
  have HS := Lib.hid hS
  have HE := Lib.hid hE
  have HBB := Lib.hid hb
  clear hS hE hb
  go_wp2_with fail
  go_ret
  exact mk_ReferenceType (behind HW.out HBB.out) rfl (fun k hk => by have := HS.out k hk; simp at this; omega) HE.out rfl

set_option maxRecDepth 100000 in
set_option maxHeartbeats 4000000 in
theorem to_RvalueReferenceType (k : NT) (ks : ByteArray → List ByteArray) (hT : TreeC (Elem ks) k) (text : ByteArray) (num : Int) (a : Option Addr) (n cap : Nat) (w : World) (h : NV w [.string ⟨#[82, 118, 97, 108, 117, 101, 82, 101, 102, 101, 114, 101, 110, 99, 101, 84, 121, 112, 101]⟩, .string text, .int .i64 num, .slice a n cap] (.mk ⟨#[82, 118, 97, 108, 117, 101, 82, 101, 102, 101, 114, 101, 110, 99, 101, 84, 121, 112, 101]⟩ text num [k])) :
    Calls Tryz.prog 14 #[.agg #[.string ⟨#[82, 118, 97, 108, 117, 101, 82, 101, 102, 101, 114, 101, 110, 99, 101, 84, 121, 112, 101]⟩, .string text, .int .i64 num, .slice a n cap]] w (Made (Elem fun stop => ⟨#[82, 118, 97, 108, 117, 101, 82, 101, 102, 101, 114, 101, 110, 99, 101, 84, 121, 112, 101]⟩ :: (if (⟨#[82, 118, 97, 108, 117, 101, 82, 101, 102, 101, 114, 101, 110, 99, 101, 84, 121, 112, 101]⟩ : ByteArray) = stop then [] else ks stop)) w) := by
  have HT := Lib.hid hT
  have HB := Lib.hid (box_at h)
  have HW := Lib.hid (below_new w (.cells #[.string ⟨#[82, 118, 97, 108, 117, 101, 82, 101, 102, 101, 114, 101, 110, 99, 101, 84, 121, 112, 101]⟩, .string text, .int .i64 num, .slice a n cap] 24))
  clear hT h
  go_enter Tryz.func14, Tryz.ntmps14
  go_wp2_with fail
  refine (kid_of (Elem ks) [k] 0 (by simp) HT.out _ _ _ _ _ _ _ HB.out.nv).mono ?_
  rintro e w1 ⟨v, S, rfl, _, hS, hE, hb⟩
  obtain ⟨T', b', rfl⟩ := hE.shape (fun k hk => (hS k hk).2)
  have HS := Lib.hid hS
  have HE := Lib.hid hE
  have HBB := Lib.hid hb
  clear hS hE hb
  go_wp2_with fail
  go_ret
  exact mk_RvalueReferenceType (behind HW.out HBB.out) rfl (fun k hk => by have := HS.out k hk; simp at this; omega) HE.out rfl

set_option maxRecDepth 100000 in
set_option maxHeartbeats 4000000 in
theorem to_ComplexType (k : NT) (ks : ByteArray → List ByteArray) (hT : TreeC (Elem ks) k) (text : ByteArray) (num : Int) (a : Option Addr) (n cap : Nat) (w : World) (h : NV w [.string ⟨#[67, 111, 109, 112, 108, 101, 120, 84, 121, 112, 101]⟩, .string text, .int .i64 num, .slice a n cap] (.mk ⟨#[67, 111, 109, 112, 108, 101, 120, 84, 121, 112, 101]⟩ text num [k])) :
    Calls Tryz.prog 14 #[.agg #[.string ⟨#[67, 111, 109, 112, 108, 101, 120, 84, 121, 112, 101]⟩, .string text, .int .i64 num, .slice a n cap]] w (Made (Elem fun stop => ⟨#[67, 111, 109, 112, 108, 101, 120, 84, 121, 112, 101]⟩ :: (if (⟨#[67, 111, 109, 112, 108, 101, 120, 84, 121, 112, 101]⟩ : ByteArray) = stop then [] else ks stop)) w) := by
  have HT := Lib.hid hT
  have HB := Lib.hid (box_at h)
  have HW := Lib.hid (below_new w (.cells #[.string ⟨#[67, 111, 109, 112, 108, 101, 120, 84, 121, 112, 101]⟩, .string text, .int .i64 num, .slice a n cap] 24))
  clear hT h
  go_enter Tryz.func14, Tryz.ntmps14
  go_wp2_with fail
  refine (kid_of (Elem ks) [k] 0 (by simp) HT.out _ _ _ _ _ _ _ HB.out.nv).mono ?_
  rintro e w1 ⟨v, S, rfl, _, hS, hE, hb⟩
  obtain ⟨T', b', rfl⟩ := hE.shape (fun k hk => (hS k hk).2)
  have HS := Lib.hid hS
  have HE := Lib.hid hE
  have HBB := Lib.hid hb
  clear hS hE hb
  go_wp2_with fail
  go_ret
  exact mk_ComplexType (behind HW.out HBB.out) rfl (fun k hk => by have := HS.out k hk; simp at this; omega) HE.out rfl

set_option maxRecDepth 100000 in
set_option maxHeartbeats 4000000 in
theorem to_ImaginaryType (k : NT) (ks : ByteArray → List ByteArray) (hT : TreeC (Elem ks) k) (text : ByteArray) (num : Int) (a : Option Addr) (n cap : Nat) (w : World) (h : NV w [.string ⟨#[73, 109, 97, 103, 105, 110, 97, 114, 121, 84, 121, 112, 101]⟩, .string text, .int .i64 num, .slice a n cap] (.mk ⟨#[73, 109, 97, 103, 105, 110, 97, 114, 121, 84, 121, 112, 101]⟩ text num [k])) :
    Calls Tryz.prog 14 #[.agg #[.string ⟨#[73, 109, 97, 103, 105, 110, 97, 114, 121, 84, 121, 112, 101]⟩, .string text, .int .i64 num, .slice a n cap]] w (Made (Elem fun stop => ⟨#[73, 109, 97, 103, 105, 110, 97, 114, 121, 84, 121, 112, 101]⟩ :: (if (⟨#[73, 109, 97, 103, 105, 110, 97, 114, 121, 84, 121, 112, 101]⟩ : ByteArray) = stop then [] else ks stop)) w) := by
  have HT := Lib.hid hT
  have HB := Lib.hid (box_at h)
  have HW := Lib.hid (below_new w (.cells #[.string ⟨#[73, 109, 97, 103, 105, 110, 97, 114, 121, 84, 121, 112, 101]⟩, .string text, .int .i64 num, .slice a n cap] 24))
  clear hT h
  go_enter Tryz.func14, Tryz.ntmps14
  go_wp2_with fail
  refine (kid_of (Elem ks) [k] 0 (by simp) HT.out _ _ _ _ _ _ _ HB.out.nv).mono ?_
  rintro e w1 ⟨v, S, rfl, _, hS, hE, hb⟩
  obtain ⟨T', b', rfl⟩ := hE.shape (fun k hk => (hS k hk).2)
  have HS := Lib.hid hS
  have HE := Lib.hid hE
  have HBB := Lib.hid hb
  clear hS hE hb
  go_wp2_with fail
  go_ret
  exact mk_ImaginaryType (behind HW.out HBB.out) rfl (fun k hk => by have := HS.out k hk; simp at this; omega) HE.out rfl

set_option maxRecDepth 100000 in
set_option maxHeartbeats 4000000 in
theorem to_Constructor (k : NT) (ks : ByteArray → List ByteArray) (hT : TreeC (Elem ks) k) (text : ByteArray) (num : Int) (a : Option Addr) (n cap : Nat) (w : World) (h : NV w [.string ⟨#[67, 111, 110, 115, 116, 114, 117, 99, 116, 111, 114]⟩, .string text, .int .i64 num, .slice a n cap] (.mk ⟨#[67, 111, 110, 115, 116, 114, 117, 99, 116, 111, 114]⟩ text num [k])) :
    Calls Tryz.prog 14 #[.agg #[.string ⟨#[67, 111, 110, 115, 116, 114, 117, 99, 116, 111, 114]⟩, .string text, .int .i64 num, .slice a n cap]] w (Made (Elem fun stop => ⟨#[67, 111, 110, 115, 116, 114, 117, 99, 116, 111, 114]⟩ :: (if (⟨#[67, 111, 110, 115, 116, 114, 117, 99, 116, 111, 114]⟩ : ByteArray) = stop then [] else ks stop)) w) := by
  have HT := Lib.hid hT
  have HB := Lib.hid (box_at h)
  have HW := Lib.hid (below_new w (.cells #[.string ⟨#[67, 111, 110, 115, 116, 114, 117, 99, 116, 111, 114]⟩, .string text, .int .i64 num, .slice a n cap] 24))
  clear hT h
  go_enter Tryz.func14, Tryz.ntmps14
  go_wp2_with fail
  refine (kid_of (Elem ks) [k] 0 (by simp) HT.out _ _ _ _ _ _ _ HB.out.nv).mono ?_
  rintro e w1 ⟨v, S, rfl, _, hS, hE, hb⟩
  obtain ⟨T', b', rfl⟩ := hE.shape (fun k hk => (hS k hk).2)
  have HS := Lib.hid hS
  have HE := Lib.hid hE
  have HBB := Lib.hid hb
  clear hS hE hb
  go_wp2_with fail
  go_ret
  exact mk_Constructor (behind HW.out HBB.out) rfl (fun k hk => by have := HS.out k hk; simp at this; omega) HE.out rfl rfl

set_option maxRecDepth 100000 in
set_option maxHeartbeats 4000000 in
theorem to_Destructor (k : NT) (ks : ByteArray → List ByteArray) (hT : TreeC (Elem ks) k) (text : ByteArray) (num : Int) (a : Option Addr) (n cap : Nat) (w : World) (h : NV w [.string ⟨#[68, 101, 115, 116, 114, 117, 99, 116, 111, 114]⟩, .string text, .int .i64 num, .slice a n cap] (.mk ⟨#[68, 101, 115, 116, 114, 117, 99, 116, 111, 114]⟩ text num [k])) :
    Calls Tryz.prog 14 #[.agg #[.string ⟨#[68, 101, 115, 116, 114, 117, 99, 116, 111, 114]⟩, .string text, .int .i64 num, .slice a n cap]] w (Made (Elem fun stop => ⟨#[68, 101, 115, 116, 114, 117, 99, 116, 111, 114]⟩ :: (if (⟨#[68, 101, 115, 116, 114, 117, 99, 116, 111, 114]⟩ : ByteArray) = stop then [] else ks stop)) w) := by
  have HT := Lib.hid hT
  have HB := Lib.hid (box_at h)
  have HW := Lib.hid (below_new w (.cells #[.string ⟨#[68, 101, 115, 116, 114, 117, 99, 116, 111, 114]⟩, .string text, .int .i64 num, .slice a n cap] 24))
  clear hT h
  go_enter Tryz.func14, Tryz.ntmps14
  go_wp2_with fail
  refine (kid_of (Elem ks) [k] 0 (by simp) HT.out _ _ _ _ _ _ _ HB.out.nv).mono ?_
  rintro e w1 ⟨v, S, rfl, _, hS, hE, hb⟩
  obtain ⟨T', b', rfl⟩ := hE.shape (fun k hk => (hS k hk).2)
  have HS := Lib.hid hS
  have HE := Lib.hid hE
  have HBB := Lib.hid hb
  clear hS hE hb
  go_wp2_with fail
  go_ret
  exact mk_Destructor (behind HW.out HBB.out) rfl (fun k hk => by have := HS.out k hk; simp at this; omega) HE.out rfl

set_option maxRecDepth 100000 in
set_option maxHeartbeats 4000000 in
theorem to_Cast (k : NT) (ks : ByteArray → List ByteArray) (hT : TreeC (Elem ks) k) (text : ByteArray) (num : Int) (a : Option Addr) (n cap : Nat) (w : World) (h : NV w [.string ⟨#[67, 97, 115, 116]⟩, .string text, .int .i64 num, .slice a n cap] (.mk ⟨#[67, 97, 115, 116]⟩ text num [k])) :
    Calls Tryz.prog 32 #[.agg #[.string ⟨#[67, 97, 115, 116]⟩, .string text, .int .i64 num, .slice a n cap]] w (Made (Elem fun stop => ⟨#[67, 97, 115, 116]⟩ :: (if (⟨#[67, 97, 115, 116]⟩ : ByteArray) = stop then [] else ks stop)) w) := by
  have HT := Lib.hid hT
  have HB := Lib.hid (box_at h)
  have HW := Lib.hid (below_new w (.cells #[.string ⟨#[67, 97, 115, 116]⟩, .string text, .int .i64 num, .slice a n cap] 24))
  clear hT h
  go_enter Tryz.func32, Tryz.ntmps32
  go_wp2_with fail
  refine (kid_of (Elem ks) [k] 0 (by simp) HT.out _ _ _ _ _ _ _ HB.out.nv).mono ?_
  rintro e w1 ⟨v, S, rfl, _, hS, hE, hb⟩
  obtain ⟨T', b', rfl⟩ := hE.shape (fun k hk => (hS k hk).2)
  have HS := Lib.hid hS
  have HE := Lib.hid hE
  have HBB := Lib.hid hb
  clear hS hE hb
  go_wp2_with fail
  go_ret
  exact mk_Cast (behind HW.out HBB.out) rfl (fun k hk => by have := HS.out k hk; simp at this; omega) HE.out rfl

set_option maxRecDepth 100000 in
set_option maxHeartbeats 16000000 in
theorem to_Literal (k : NT) (ks : ByteArray → List ByteArray) (hT : TreeC (Elem ks) k) (text : ByteArray) (num : Int) (a : Option Addr) (n cap : Nat) (w : World) (h : NV w [.string ⟨#[76, 105, 116, 101, 114, 97, 108]⟩, .string text, .int .i64 num, .slice a n cap] (.mk ⟨#[76, 105, 116, 101, 114, 97, 108]⟩ text num [k])) :
    Calls Tryz.prog 32 #[.agg #[.string ⟨#[76, 105, 116, 101, 114, 97, 108]⟩, .string text, .int .i64 num, .slice a n cap]] w (Made (Elem fun stop => ⟨#[76, 105, 116, 101, 114, 97, 108]⟩ :: (if (⟨#[76, 105, 116, 101, 114, 97, 108]⟩ : ByteArray) = stop then [] else ks stop)) w) := by
  have HKA := Lib.hid (fun w' (hb : Below (w.alloc (.cells #[.string ⟨#[76, 105, 116, 101, 114, 97, 108]⟩, .string text, .int .i64 num, .slice a n cap] 24)).heap.size (w.alloc (.cells #[.string ⟨#[76, 105, 116, 101, 114, 97, 108]⟩, .string text, .int .i64 num, .slice a n cap] 24)) w') => kid_of (Elem ks) [k] 0 (by simp) hT _ _ _ _ _ _ w' ((box_at h).nv.keep hb))
  clear hT
  have HX := Lib.hid (box_at h)
  have HW := Lib.hid (below_new w (.cells #[.string ⟨#[76, 105, 116, 101, 114, 97, 108]⟩, .string text, .int .i64 num, .slice a n cap] 24))
  clear h
  go_enter Tryz.func32, Tryz.ntmps32
  go_wp2_with fail
  generalize (w.alloc (.cells #[.string ⟨#[76, 105, 116, 101, 114, 97, 108]⟩, .string text, .int .i64 num, .slice a n cap] 24)) = w0 at *
  have BX0 := Lib.hid HX.out.box
  have hbx := HX.out.box
  have HB0 := Lib.hid (Below.drew (Below.refl w0.heap.size w0))
  go_region_held3 (fun w' => w'.cell? ⟨w.heap.size, 0, none⟩ = some (.string ⟨#[76, 105, 116, 101, 114, 97, 108]⟩) ∧ w'.cell? ⟨w.heap.size, 1, none⟩ = some (.string text) ∧ w'.cell? ⟨w.heap.size, 2, none⟩ = some (.int .i64 num) ∧ w'.cell? ⟨w.heap.size, 3, none⟩ = some (.slice a n cap)) (first | exact BX0.out | exact BXF.out | go_keep) (first
    | (go_at_call_of 30 (Value.int IntKind.i64 0); refine (HKA.out _ ?_).mono ?_; (first | exact HBB.out | exact HB0.out); rintro e wA ⟨vA, SA, rfl, _, hSA, hEA, hbA⟩
       obtain ⟨TA, bA, rfl⟩ := hEA.shape (fun k hk => (hSA k hk).2)
       have HEA := Lib.hid hEA
       have HSA := Lib.hid hSA
       have HBF := Lib.hid (behind HB0.out hbA)
       have BXF := Lib.hid (HX.out.keep HBF.out).box
       clear hEA hbA hSA))
  all_goals
    go_wp2_with fail
    go_ret
    first
    | exact mk_Literal (behind HW.out HBF.out) rfl (fun k hk => by have h1 := HSA.out k hk; have h2 := HB0.out.size; have h3 := HW.out.size; omega) HEA.out rfl

end Go.Proofs.YtdlhhdhooacogaaGreatDoor

/-
  treeOf at the kinds of treeOfMore; at qualifiers; at what has no element.
-/
import Derived.Test.YtdlhhdhooacogaaGreatDoorYI
namespace Go.Proofs.YtdlhhdhooacogaaGreatDoor
open Go.RowKit

set_option maxHeartbeats 2000000 in
theorem up_UnnamedType (E : ElemP) (t : NT) (text : ByteArray) (num : Int) (a : Option Addr) (n cap : Nat) (w : World) (h : NV w [.string ⟨#[85, 110, 110, 97, 109, 101, 100, 84, 121, 112, 101]⟩, .string text, .int .i64 num, .slice a n cap] t)
    (hm : ∀ w', NV w' [.string ⟨#[85, 110, 110, 97, 109, 101, 100, 84, 121, 112, 101]⟩, .string text, .int .i64 num, .slice a n cap] t → Calls Tryz.prog 32 #[.agg #[.string ⟨#[85, 110, 110, 97, 109, 101, 100, 84, 121, 112, 101]⟩, .string text, .int .i64 num, .slice a n cap]] w' (Made E w')) :
    Calls Tryz.prog 14 #[.agg #[.string ⟨#[85, 110, 110, 97, 109, 101, 100, 84, 121, 112, 101]⟩, .string text, .int .i64 num, .slice a n cap]] w (Made E w) := by
  have HC := Lib.hid (hm _ (h.keep (below_new w (.cells #[.string ⟨#[85, 110, 110, 97, 109, 101, 100, 84, 121, 112, 101]⟩, .string text, .int .i64 num, .slice a n cap] 24))))
  have HW := Lib.hid (below_new w (.cells #[.string ⟨#[85, 110, 110, 97, 109, 101, 100, 84, 121, 112, 101]⟩, .string text, .int .i64 num, .slice a n cap] 24))
  clear hm h
  go_enter Tryz.func14, Tryz.ntmps14
  go_wp2_with fail
  refine HC.out.mono ?_
  rintro e w1 ⟨v, S, rfl, hs, hS, hE, hb⟩
  have HR := Lib.hid (show Made E w (.returned v) w1 from ⟨v, S, rfl, hs, fun k hk => by have := hS k hk; simp at this; omega, hE, behind HW.out hb⟩)
  clear hs hS hE hb
  go_wp2_with fail
  go_ret
  exact HR.out

set_option maxHeartbeats 2000000 in
theorem up_Cast (E : ElemP) (t : NT) (text : ByteArray) (num : Int) (a : Option Addr) (n cap : Nat) (w : World) (h : NV w [.string ⟨#[67, 97, 115, 116]⟩, .string text, .int .i64 num, .slice a n cap] t)
    (hm : ∀ w', NV w' [.string ⟨#[67, 97, 115, 116]⟩, .string text, .int .i64 num, .slice a n cap] t → Calls Tryz.prog 32 #[.agg #[.string ⟨#[67, 97, 115, 116]⟩, .string text, .int .i64 num, .slice a n cap]] w' (Made E w')) :
    Calls Tryz.prog 14 #[.agg #[.string ⟨#[67, 97, 115, 116]⟩, .string text, .int .i64 num, .slice a n cap]] w (Made E w) := by
  have HC := Lib.hid (hm _ (h.keep (below_new w (.cells #[.string ⟨#[67, 97, 115, 116]⟩, .string text, .int .i64 num, .slice a n cap] 24))))
  have HW := Lib.hid (below_new w (.cells #[.string ⟨#[67, 97, 115, 116]⟩, .string text, .int .i64 num, .slice a n cap] 24))
  clear hm h
  go_enter Tryz.func14, Tryz.ntmps14
  go_wp2_with fail
  refine HC.out.mono ?_
  rintro e w1 ⟨v, S, rfl, hs, hS, hE, hb⟩
  have HR := Lib.hid (show Made E w (.returned v) w1 from ⟨v, S, rfl, hs, fun k hk => by have := hS k hk; simp at this; omega, hE, behind HW.out hb⟩)
  clear hs hS hE hb
  go_wp2_with fail
  go_ret
  exact HR.out

set_option maxHeartbeats 2000000 in
theorem up_Literal (E : ElemP) (t : NT) (text : ByteArray) (num : Int) (a : Option Addr) (n cap : Nat) (w : World) (h : NV w [.string ⟨#[76, 105, 116, 101, 114, 97, 108]⟩, .string text, .int .i64 num, .slice a n cap] t)
    (hm : ∀ w', NV w' [.string ⟨#[76, 105, 116, 101, 114, 97, 108]⟩, .string text, .int .i64 num, .slice a n cap] t → Calls Tryz.prog 32 #[.agg #[.string ⟨#[76, 105, 116, 101, 114, 97, 108]⟩, .string text, .int .i64 num, .slice a n cap]] w' (Made E w')) :
    Calls Tryz.prog 14 #[.agg #[.string ⟨#[76, 105, 116, 101, 114, 97, 108]⟩, .string text, .int .i64 num, .slice a n cap]] w (Made E w) := by
  have HC := Lib.hid (hm _ (h.keep (below_new w (.cells #[.string ⟨#[76, 105, 116, 101, 114, 97, 108]⟩, .string text, .int .i64 num, .slice a n cap] 24))))
  have HW := Lib.hid (below_new w (.cells #[.string ⟨#[76, 105, 116, 101, 114, 97, 108]⟩, .string text, .int .i64 num, .slice a n cap] 24))
  clear hm h
  go_enter Tryz.func14, Tryz.ntmps14
  go_wp2_with fail
  refine HC.out.mono ?_
  rintro e w1 ⟨v, S, rfl, hs, hS, hE, hb⟩
  have HR := Lib.hid (show Made E w (.returned v) w1 from ⟨v, S, rfl, hs, fun k hk => by have := hS k hk; simp at this; omega, hE, behind HW.out hb⟩)
  clear hs hS hE hb
  go_wp2_with fail
  go_ret
  exact HR.out

set_option maxHeartbeats 2000000 in
theorem up_ArrayType (E : ElemP) (t : NT) (text : ByteArray) (num : Int) (a : Option Addr) (n cap : Nat) (w : World) (h : NV w [.string ⟨#[65, 114, 114, 97, 121, 84, 121, 112, 101]⟩, .string text, .int .i64 num, .slice a n cap] t)
    (hm : ∀ w', NV w' [.string ⟨#[65, 114, 114, 97, 121, 84, 121, 112, 101]⟩, .string text, .int .i64 num, .slice a n cap] t → Calls Tryz.prog 32 #[.agg #[.string ⟨#[65, 114, 114, 97, 121, 84, 121, 112, 101]⟩, .string text, .int .i64 num, .slice a n cap]] w' (Made E w')) :
    Calls Tryz.prog 14 #[.agg #[.string ⟨#[65, 114, 114, 97, 121, 84, 121, 112, 101]⟩, .string text, .int .i64 num, .slice a n cap]] w (Made E w) := by
  have HC := Lib.hid (hm _ (h.keep (below_new w (.cells #[.string ⟨#[65, 114, 114, 97, 121, 84, 121, 112, 101]⟩, .string text, .int .i64 num, .slice a n cap] 24))))
  have HW := Lib.hid (below_new w (.cells #[.string ⟨#[65, 114, 114, 97, 121, 84, 121, 112, 101]⟩, .string text, .int .i64 num, .slice a n cap] 24))
  clear hm h
  go_enter Tryz.func14, Tryz.ntmps14
  go_wp2_with fail
  refine HC.out.mono ?_
  rintro e w1 ⟨v, S, rfl, hs, hS, hE, hb⟩
  have HR := Lib.hid (show Made E w (.returned v) w1 from ⟨v, S, rfl, hs, fun k hk => by have := hS k hk; simp at this; omega, hE, behind HW.out hb⟩)
  clear hs hS hE hb
  go_wp2_with fail
  go_ret
  exact HR.out

set_option maxHeartbeats 2000000 in
theorem up_PtrMem (E : ElemP) (t : NT) (text : ByteArray) (num : Int) (a : Option Addr) (n cap : Nat) (w : World) (h : NV w [.string ⟨#[80, 116, 114, 77, 101, 109]⟩, .string text, .int .i64 num, .slice a n cap] t)
    (hm : ∀ w', NV w' [.string ⟨#[80, 116, 114, 77, 101, 109]⟩, .string text, .int .i64 num, .slice a n cap] t → Calls Tryz.prog 32 #[.agg #[.string ⟨#[80, 116, 114, 77, 101, 109]⟩, .string text, .int .i64 num, .slice a n cap]] w' (Made E w')) :
    Calls Tryz.prog 14 #[.agg #[.string ⟨#[80, 116, 114, 77, 101, 109]⟩, .string text, .int .i64 num, .slice a n cap]] w (Made E w) := by
  have HC := Lib.hid (hm _ (h.keep (below_new w (.cells #[.string ⟨#[80, 116, 114, 77, 101, 109]⟩, .string text, .int .i64 num, .slice a n cap] 24))))
  have HW := Lib.hid (below_new w (.cells #[.string ⟨#[80, 116, 114, 77, 101, 109]⟩, .string text, .int .i64 num, .slice a n cap] 24))
  clear hm h
  go_enter Tryz.func14, Tryz.ntmps14
  go_wp2_with fail
  refine HC.out.mono ?_
  rintro e w1 ⟨v, S, rfl, hs, hS, hE, hb⟩
  have HR := Lib.hid (show Made E w (.returned v) w1 from ⟨v, S, rfl, hs, fun k hk => by have := hS k hk; simp at this; omega, hE, behind HW.out hb⟩)
  clear hs hS hE hb
  go_wp2_with fail
  go_ret
  exact HR.out

set_option maxHeartbeats 2000000 in
theorem up_VectorType (E : ElemP) (t : NT) (text : ByteArray) (num : Int) (a : Option Addr) (n cap : Nat) (w : World) (h : NV w [.string ⟨#[86, 101, 99, 116, 111, 114, 84, 121, 112, 101]⟩, .string text, .int .i64 num, .slice a n cap] t)
    (hm : ∀ w', NV w' [.string ⟨#[86, 101, 99, 116, 111, 114, 84, 121, 112, 101]⟩, .string text, .int .i64 num, .slice a n cap] t → Calls Tryz.prog 32 #[.agg #[.string ⟨#[86, 101, 99, 116, 111, 114, 84, 121, 112, 101]⟩, .string text, .int .i64 num, .slice a n cap]] w' (Made E w')) :
    Calls Tryz.prog 14 #[.agg #[.string ⟨#[86, 101, 99, 116, 111, 114, 84, 121, 112, 101]⟩, .string text, .int .i64 num, .slice a n cap]] w (Made E w) := by
  have HC := Lib.hid (hm _ (h.keep (below_new w (.cells #[.string ⟨#[86, 101, 99, 116, 111, 114, 84, 121, 112, 101]⟩, .string text, .int .i64 num, .slice a n cap] 24))))
  have HW := Lib.hid (below_new w (.cells #[.string ⟨#[86, 101, 99, 116, 111, 114, 84, 121, 112, 101]⟩, .string text, .int .i64 num, .slice a n cap] 24))
  clear hm h
  go_enter Tryz.func14, Tryz.ntmps14
  go_wp2_with fail
  refine HC.out.mono ?_
  rintro e w1 ⟨v, S, rfl, hs, hS, hE, hb⟩
  have HR := Lib.hid (show Made E w (.returned v) w1 from ⟨v, S, rfl, hs, fun k hk => by have := hS k hk; simp at this; omega, hE, behind HW.out hb⟩)
  clear hs hS hE hb
  go_wp2_with fail
  go_ret
  exact HR.out

set_option maxHeartbeats 2000000 in
theorem up_VendorQualifier (E : ElemP) (t : NT) (text : ByteArray) (num : Int) (a : Option Addr) (n cap : Nat) (w : World) (h : NV w [.string ⟨#[86, 101, 110, 100, 111, 114, 81, 117, 97, 108, 105, 102, 105, 101, 114]⟩, .string text, .int .i64 num, .slice a n cap] t)
    (hm : ∀ w', NV w' [.string ⟨#[86, 101, 110, 100, 111, 114, 81, 117, 97, 108, 105, 102, 105, 101, 114]⟩, .string text, .int .i64 num, .slice a n cap] t → Calls Tryz.prog 32 #[.agg #[.string ⟨#[86, 101, 110, 100, 111, 114, 81, 117, 97, 108, 105, 102, 105, 101, 114]⟩, .string text, .int .i64 num, .slice a n cap]] w' (Made E w')) :
    Calls Tryz.prog 14 #[.agg #[.string ⟨#[86, 101, 110, 100, 111, 114, 81, 117, 97, 108, 105, 102, 105, 101, 114]⟩, .string text, .int .i64 num, .slice a n cap]] w (Made E w) := by
  have HC := Lib.hid (hm _ (h.keep (below_new w (.cells #[.string ⟨#[86, 101, 110, 100, 111, 114, 81, 117, 97, 108, 105, 102, 105, 101, 114]⟩, .string text, .int .i64 num, .slice a n cap] 24))))
  have HW := Lib.hid (below_new w (.cells #[.string ⟨#[86, 101, 110, 100, 111, 114, 81, 117, 97, 108, 105, 102, 105, 101, 114]⟩, .string text, .int .i64 num, .slice a n cap] 24))
  clear hm h
  go_enter Tryz.func14, Tryz.ntmps14
  go_wp2_with fail
  refine HC.out.mono ?_
  rintro e w1 ⟨v, S, rfl, hs, hS, hE, hb⟩
  have HR := Lib.hid (show Made E w (.returned v) w1 from ⟨v, S, rfl, hs, fun k hk => by have := hS k hk; simp at this; omega, hE, behind HW.out hb⟩)
  clear hs hS hE hb
  go_wp2_with fail
  go_ret
  exact HR.out

set_option maxHeartbeats 2000000 in
theorem up_TaggedName (E : ElemP) (t : NT) (text : ByteArray) (num : Int) (a : Option Addr) (n cap : Nat) (w : World) (h : NV w [.string ⟨#[84, 97, 103, 103, 101, 100, 78, 97, 109, 101]⟩, .string text, .int .i64 num, .slice a n cap] t)
    (hm : ∀ w', NV w' [.string ⟨#[84, 97, 103, 103, 101, 100, 78, 97, 109, 101]⟩, .string text, .int .i64 num, .slice a n cap] t → Calls Tryz.prog 32 #[.agg #[.string ⟨#[84, 97, 103, 103, 101, 100, 78, 97, 109, 101]⟩, .string text, .int .i64 num, .slice a n cap]] w' (Made E w')) :
    Calls Tryz.prog 14 #[.agg #[.string ⟨#[84, 97, 103, 103, 101, 100, 78, 97, 109, 101]⟩, .string text, .int .i64 num, .slice a n cap]] w (Made E w) := by
  have HC := Lib.hid (hm _ (h.keep (below_new w (.cells #[.string ⟨#[84, 97, 103, 103, 101, 100, 78, 97, 109, 101]⟩, .string text, .int .i64 num, .slice a n cap] 24))))
  have HW := Lib.hid (below_new w (.cells #[.string ⟨#[84, 97, 103, 103, 101, 100, 78, 97, 109, 101]⟩, .string text, .int .i64 num, .slice a n cap] 24))
  clear hm h
  go_enter Tryz.func14, Tryz.ntmps14
  go_wp2_with fail
  refine HC.out.mono ?_
  rintro e w1 ⟨v, S, rfl, hs, hS, hE, hb⟩
  have HR := Lib.hid (show Made E w (.returned v) w1 from ⟨v, S, rfl, hs, fun k hk => by have := hS k hk; simp at this; omega, hE, behind HW.out hb⟩)
  clear hs hS hE hb
  go_wp2_with fail
  go_ret
  exact HR.out

set_option maxHeartbeats 2000000 in
theorem up_ArgumentPack (E : ElemP) (t : NT) (text : ByteArray) (num : Int) (a : Option Addr) (n cap : Nat) (w : World) (h : NV w [.string ⟨#[65, 114, 103, 117, 109, 101, 110, 116, 80, 97, 99, 107]⟩, .string text, .int .i64 num, .slice a n cap] t)
    (hm : ∀ w', NV w' [.string ⟨#[65, 114, 103, 117, 109, 101, 110, 116, 80, 97, 99, 107]⟩, .string text, .int .i64 num, .slice a n cap] t → Calls Tryz.prog 32 #[.agg #[.string ⟨#[65, 114, 103, 117, 109, 101, 110, 116, 80, 97, 99, 107]⟩, .string text, .int .i64 num, .slice a n cap]] w' (Made E w')) :
    Calls Tryz.prog 14 #[.agg #[.string ⟨#[65, 114, 103, 117, 109, 101, 110, 116, 80, 97, 99, 107]⟩, .string text, .int .i64 num, .slice a n cap]] w (Made E w) := by
  have HC := Lib.hid (hm _ (h.keep (below_new w (.cells #[.string ⟨#[65, 114, 103, 117, 109, 101, 110, 116, 80, 97, 99, 107]⟩, .string text, .int .i64 num, .slice a n cap] 24))))
  have HW := Lib.hid (below_new w (.cells #[.string ⟨#[65, 114, 103, 117, 109, 101, 110, 116, 80, 97, 99, 107]⟩, .string text, .int .i64 num, .slice a n cap] 24))
  clear hm h
  go_enter Tryz.func14, Tryz.ntmps14
  go_wp2_with fail
  refine HC.out.mono ?_
  rintro e w1 ⟨v, S, rfl, hs, hS, hE, hb⟩
  have HR := Lib.hid (show Made E w (.returned v) w1 from ⟨v, S, rfl, hs, fun k hk => by have := hS k hk; simp at this; omega, hE, behind HW.out hb⟩)
  clear hs hS hE hb
  go_wp2_with fail
  go_ret
  exact HR.out

set_option maxHeartbeats 2000000 in
theorem up_Closure (E : ElemP) (t : NT) (text : ByteArray) (num : Int) (a : Option Addr) (n cap : Nat) (w : World) (h : NV w [.string ⟨#[67, 108, 111, 115, 117, 114, 101]⟩, .string text, .int .i64 num, .slice a n cap] t)
    (hm : ∀ w', NV w' [.string ⟨#[67, 108, 111, 115, 117, 114, 101]⟩, .string text, .int .i64 num, .slice a n cap] t → Calls Tryz.prog 32 #[.agg #[.string ⟨#[67, 108, 111, 115, 117, 114, 101]⟩, .string text, .int .i64 num, .slice a n cap]] w' (Made E w')) :
    Calls Tryz.prog 14 #[.agg #[.string ⟨#[67, 108, 111, 115, 117, 114, 101]⟩, .string text, .int .i64 num, .slice a n cap]] w (Made E w) := by
  have HC := Lib.hid (hm _ (h.keep (below_new w (.cells #[.string ⟨#[67, 108, 111, 115, 117, 114, 101]⟩, .string text, .int .i64 num, .slice a n cap] 24))))
  have HW := Lib.hid (below_new w (.cells #[.string ⟨#[67, 108, 111, 115, 117, 114, 101]⟩, .string text, .int .i64 num, .slice a n cap] 24))
  clear hm h
  go_enter Tryz.func14, Tryz.ntmps14
  go_wp2_with fail
  refine HC.out.mono ?_
  rintro e w1 ⟨v, S, rfl, hs, hS, hE, hb⟩
  have HR := Lib.hid (show Made E w (.returned v) w1 from ⟨v, S, rfl, hs, fun k hk => by have := hS k hk; simp at this; omega, hE, behind HW.out hb⟩)
  clear hs hS hE hb
  go_wp2_with fail
  go_ret
  exact HR.out

set_option maxHeartbeats 2000000 in
theorem up_None (E : ElemP) (t : NT) (text : ByteArray) (num : Int) (a : Option Addr) (n cap : Nat) (w : World) (h : NV w [.string ⟨#[]⟩, .string text, .int .i64 num, .slice a n cap] t)
    (hm : ∀ w', NV w' [.string ⟨#[]⟩, .string text, .int .i64 num, .slice a n cap] t → Calls Tryz.prog 32 #[.agg #[.string ⟨#[]⟩, .string text, .int .i64 num, .slice a n cap]] w' (Made E w')) :
    Calls Tryz.prog 14 #[.agg #[.string ⟨#[]⟩, .string text, .int .i64 num, .slice a n cap]] w (Made E w) := by
  have HC := Lib.hid (hm _ (h.keep (below_new w (.cells #[.string ⟨#[]⟩, .string text, .int .i64 num, .slice a n cap] 24))))
  have HW := Lib.hid (below_new w (.cells #[.string ⟨#[]⟩, .string text, .int .i64 num, .slice a n cap] 24))
  clear hm h
  go_enter Tryz.func14, Tryz.ntmps14
  go_wp2_with fail
  refine HC.out.mono ?_
  rintro e w1 ⟨v, S, rfl, hs, hS, hE, hb⟩
  have HR := Lib.hid (show Made E w (.returned v) w1 from ⟨v, S, rfl, hs, fun k hk => by have := hS k hk; simp at this; omega, hE, behind HW.out hb⟩)
  clear hs hS hE hb
  go_wp2_with fail
  go_ret
  exact HR.out

theorem NV.kindOf' {w : World} {kd tx : ByteArray} {nm : Int} {a : Option Addr} {n cap : Nat} {t : NT} (h : NV w [.string kd, .string tx, .int .i64 nm, .slice a n cap] t) : kd = t.kind := by
  obtain ⟨ks, e, _⟩ := h.kids
  rw [e]
  rfl

set_option maxRecDepth 100000 in
set_option maxHeartbeats 2000000 in
theorem more_none (text : ByteArray) (num : Int) (a : Option Addr) (n cap : Nat) (w : World) :
    Calls Tryz.prog 32 #[.agg #[.string ⟨#[]⟩, .string text, .int .i64 num, .slice a n cap]] w (Made NilE w) := by
  go_enter Tryz.func32, Tryz.ntmps32
  go_wp2_with fail
  go_ret
  exact ⟨_, fun _ => False, rfl, .inl rfl, fun k hk => hk.elim, rfl, below_new _ _⟩

theorem treeC_none {t : NT} (ht : t.kind = ⟨#[]⟩) : TreeC NilE t := by
  intro kind text num a n cap w h
  have e := h.kindOf'
  rw [ht] at e
  subst e
  exact up_None NilE t text num a n cap w h (fun w' _ => more_none text num a n cap w')

set_option maxRecDepth 100000 in
set_option maxHeartbeats 16000000 in
theorem to_Qualifier (text : ByteArray) (num : Int) (a : Option Addr) (n cap : Nat) (w : World) (h : NV w [.string ⟨#[81, 117, 97, 108, 105, 102, 105, 101, 114]⟩, .string text, .int .i64 num, .slice a n cap] (.mk ⟨#[81, 117, 97, 108, 105, 102, 105, 101, 114]⟩ text num [])) :
    Calls Tryz.prog 14 #[.agg #[.string ⟨#[81, 117, 97, 108, 105, 102, 105, 101, 114]⟩, .string text, .int .i64 num, .slice a n cap]] w (Made IfaceE w) := by
  have hn1000 : n ≤ 1000 := by obtain ⟨_, e, _, _, hn, _⟩ := h.kids; simp at e; subst e; simp at hn; omega
  have HKB := Lib.hid (fun w' (hb : Below (w.alloc (.cells #[.string ⟨#[81, 117, 97, 108, 105, 102, 105, 101, 114]⟩, .string text, .int .i64 num, .slice a n cap] 24)).heap.size (w.alloc (.cells #[.string ⟨#[81, 117, 97, 108, 105, 102, 105, 101, 114]⟩, .string text, .int .i64 num, .slice a n cap] 24)) w') => kids_of (fun _ => IfaceE) (fun _ => IfaceE.kept) 0 [] (fun i _ hi => by simp at hi) _ _ _ _ _ _ w' (Nat.zero_le _) hn1000 ((box_at h).nv.keep hb))
  have HX := Lib.hid (box_at h)
  have HW := Lib.hid (below_new w (.cells #[.string ⟨#[81, 117, 97, 108, 105, 102, 105, 101, 114]⟩, .string text, .int .i64 num, .slice a n cap] 24))
  clear h
  go_enter Tryz.func14, Tryz.ntmps14
  go_wp2_with fail
  generalize (w.alloc (.cells #[.string ⟨#[81, 117, 97, 108, 105, 102, 105, 101, 114]⟩, .string text, .int .i64 num, .slice a n cap] 24)) = w0 at *
  have BX0 := Lib.hid HX.out.box
  have hbx := HX.out.box
  have HB0 := Lib.hid (Below.drew (Below.refl w0.heap.size w0))
  go_region_held3 (fun w' => w'.cell? ⟨w.heap.size, 0, none⟩ = some (.string ⟨#[81, 117, 97, 108, 105, 102, 105, 101, 114]⟩) ∧ w'.cell? ⟨w.heap.size, 1, none⟩ = some (.string text) ∧ w'.cell? ⟨w.heap.size, 2, none⟩ = some (.int .i64 num) ∧ w'.cell? ⟨w.heap.size, 3, none⟩ = some (.slice a n cap)) (first | exact BX0.out | exact BXF.out | go_keep) (first
    | (go_at_call_of 31 (Value.int IntKind.i64 0); refine (HKB.out _ ?_).mono ?_; (first | exact HBA.out | exact HB0.out); rintro e wB ⟨vB, rfl, hEB, hbB⟩
       obtain ⟨aB, capB, rfl⟩ := hEB.slice
       have HEB := Lib.hid hEB
       have HBF := Lib.hid (behind HB0.out hbB)
       have BXF := Lib.hid (HX.out.keep HBF.out).box
       clear hEB hbB))
  all_goals
    go_wp2_with fail
    go_ret
    first
    | (exact ⟨_, fun _ => False, rfl, .inr ⟨_, _, rfl⟩, fun k hk => hk.elim, ⟨_, _, rfl⟩, (behind HW.out HBF.out).alloc (behind HW.out HBF.out).size _⟩)

set_option maxRecDepth 100000 in
set_option maxHeartbeats 4000000 in
theorem to_Qualifiers (kl : List NT) (hq : ∀ k ∈ kl, k.kind = ⟨#[81, 117, 97, 108, 105, 102, 105, 101, 114]⟩ ∧ k.kids = []) (hn1000 : kl.length ≤ 1000) (text : ByteArray) (num : Int) (a : Option Addr) (n cap : Nat) (w : World) (h : NV w [.string ⟨#[81, 117, 97, 108, 105, 102, 105, 101, 114, 115]⟩, .string text, .int .i64 num, .slice a n cap] (.mk ⟨#[81, 117, 97, 108, 105, 102, 105, 101, 114, 115]⟩ text num kl)) :
    Calls Tryz.prog 14 #[.agg #[.string ⟨#[81, 117, 97, 108, 105, 102, 105, 101, 114, 115]⟩, .string text, .int .i64 num, .slice a n cap]] w (Made IfaceE w) := by
  have hnn : n ≤ 1000 := by obtain ⟨_, e, _, _, hn, _⟩ := h.kids; simp at e; subst e; omega
  have hT : ∀ i, 0 ≤ i → i < kl.length → TreeC IfaceE (kl.getD i default) := by
    intro i _ hi kind text num a n cap w hv
    obtain ⟨e1, e2⟩ := hq _ (getD_mem hi)
    obtain ⟨ks, et, _⟩ := hv.kids
    rw [et] at hv e1 e2
    have e3 : kind = ⟨#[81, 117, 97, 108, 105, 102, 105, 101, 114]⟩ := e1
    have e4 : ks = [] := e2
    subst e3 e4
    exact to_Qualifier text num a n cap w hv
  have HC := Lib.hid (kids_of (fun _ => IfaceE) (fun _ => IfaceE.kept) 0 kl hT _ _ _ _ _ _ _ (Nat.zero_le _) hnn (box_at h).nv)
  have HW := Lib.hid (below_new w (.cells #[.string ⟨#[81, 117, 97, 108, 105, 102, 105, 101, 114, 115]⟩, .string text, .int .i64 num, .slice a n cap] 24))
  clear h hT hq
  go_enter Tryz.func14, Tryz.ntmps14
  go_wp2_with fail
  refine HC.out.mono ?_
  rintro e w1 ⟨v, rfl, hE, hb⟩
  obtain ⟨a1, cap1, rfl⟩ := hE.slice
  have HBB := Lib.hid hb
  clear hE hb
  go_wp2_with fail
  go_ret
  exact ⟨_, fun _ => False, rfl, .inr ⟨_, _, rfl⟩, fun k hk => hk.elim, ⟨_, _, rfl⟩, (behind HW.out HBB.out).alloc (behind HW.out HBB.out).size _⟩

end Go.Proofs.YtdlhhdhooacogaaGreatDoor

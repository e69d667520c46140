/-
  Traverse over leaves and elements of one.
-/
import Derived.Test.YtdlhhdhooacogaaGreatDoorYC
namespace Go.Proofs.YtdlhhdhooacogaaGreatDoor
open Go.RowKit

/-- The method Traverse of the type T is the function f. -/
structure Meth (T : TypeId) (f : FuncId) : Prop where
  m : ∀ (a : Addr) (w : World), (method 281 T (.pointer (some a)) "Traverse").run Tryz.prog w = .ok (f, .pointer (some a)) w
  c : ∀ (args : Array Value) (w : World), (callFunc f args).run Tryz.prog w = .ok (.enter f args) w

/-- Traverse at v hands the kinds ks to the function. -/
def Goes (o s : Nat) (stop : ByteArray) (w0 : World) (ks : List ByteArray) (v : Value) : Prop :=
  ∃ T f b, v = .iface T (.pointer (some ⟨b, 0, none⟩)) ∧ Meth T f ∧ ∀ w xs, St o s stop w0 w xs → xs.length + ks.length ≤ 200 →
    Calls Tryz.prog f #[.pointer (some ⟨b, 0, none⟩), .func (.func 15) #[] #[.pointer (some ⟨o, 0, none⟩), .pointer (some ⟨s, 0, none⟩)]] w fun e w' => e = .returned (.tuple #[]) ∧ St o s stop w0 w' (xs ++ ks)

theorem eq_stop {K stop : ByteArray} (h : (K.toList == stop.toList) = true) : K = stop := by
  have h1 := eq_of_beq h
  rw [ByteArray.toList_eq, ByteArray.toList_eq] at h1
  exact ByteArray.ext (Array.toList_inj.mp h1)
theorem ne_stop {K stop : ByteArray} (h : (K.toList == stop.toList) = false) : ¬ K = stop := fun e => by subst e; simp at h

theorem mt_Name (a : Addr) (w : World) : (method 281 40 (.pointer (some a)) "Traverse").run Tryz.prog w = .ok (80, .pointer (some a)) w := by kernel_rfl
theorem mc_Name (args : Array Value) (w : World) : (callFunc 80 args).run Tryz.prog w = .ok (.enter 80 args) w := by kernel_rfl
theorem meth_Name : Meth 40 80 := ⟨mt_Name, mc_Name⟩
theorem mt_BuiltinType (a : Addr) (w : World) : (method 281 43 (.pointer (some a)) "Traverse").run Tryz.prog w = .ok (83, .pointer (some a)) w := by kernel_rfl
theorem mc_BuiltinType (args : Array Value) (w : World) : (callFunc 83 args).run Tryz.prog w = .ok (.enter 83 args) w := by kernel_rfl
theorem meth_BuiltinType : Meth 43 83 := ⟨mt_BuiltinType, mc_BuiltinType⟩
theorem mt_Operator (a : Addr) (w : World) : (method 281 45 (.pointer (some a)) "Traverse").run Tryz.prog w = .ok (86, .pointer (some a)) w := by kernel_rfl
theorem mc_Operator (args : Array Value) (w : World) : (callFunc 86 args).run Tryz.prog w = .ok (.enter 86 args) w := by kernel_rfl
theorem meth_Operator : Meth 45 86 := ⟨mt_Operator, mc_Operator⟩
theorem mt_UnnamedType (a : Addr) (w : World) : (method 281 125 (.pointer (some a)) "Traverse").run Tryz.prog w = .ok (164, .pointer (some a)) w := by kernel_rfl
theorem mc_UnnamedType (args : Array Value) (w : World) : (callFunc 164 args).run Tryz.prog w = .ok (.enter 164 args) w := by kernel_rfl
theorem meth_UnnamedType : Meth 125 164 := ⟨mt_UnnamedType, mc_UnnamedType⟩
theorem mt_PointerType (a : Addr) (w : World) : (method 281 70 (.pointer (some a)) "Traverse").run Tryz.prog w = .ok (107, .pointer (some a)) w := by kernel_rfl
theorem mc_PointerType (args : Array Value) (w : World) : (callFunc 107 args).run Tryz.prog w = .ok (.enter 107 args) w := by kernel_rfl
theorem meth_PointerType : Meth 70 107 := ⟨mt_PointerType, mc_PointerType⟩
theorem mt_ReferenceType (a : Addr) (w : World) : (method 281 73 (.pointer (some a)) "Traverse").run Tryz.prog w = .ok (110, .pointer (some a)) w := by kernel_rfl
theorem mc_ReferenceType (args : Array Value) (w : World) : (callFunc 110 args).run Tryz.prog w = .ok (.enter 110 args) w := by kernel_rfl
theorem meth_ReferenceType : Meth 73 110 := ⟨mt_ReferenceType, mc_ReferenceType⟩
theorem mt_RvalueReferenceType (a : Addr) (w : World) : (method 281 75 (.pointer (some a)) "Traverse").run Tryz.prog w = .ok (113, .pointer (some a)) w := by kernel_rfl
theorem mc_RvalueReferenceType (args : Array Value) (w : World) : (callFunc 113 args).run Tryz.prog w = .ok (.enter 113 args) w := by kernel_rfl
theorem meth_RvalueReferenceType : Meth 75 113 := ⟨mt_RvalueReferenceType, mc_RvalueReferenceType⟩
theorem mt_ComplexType (a : Addr) (w : World) : (method 281 77 (.pointer (some a)) "Traverse").run Tryz.prog w = .ok (116, .pointer (some a)) w := by kernel_rfl
theorem mc_ComplexType (args : Array Value) (w : World) : (callFunc 116 args).run Tryz.prog w = .ok (.enter 116 args) w := by kernel_rfl
theorem meth_ComplexType : Meth 77 116 := ⟨mt_ComplexType, mc_ComplexType⟩
theorem mt_ImaginaryType (a : Addr) (w : World) : (method 281 79 (.pointer (some a)) "Traverse").run Tryz.prog w = .ok (119, .pointer (some a)) w := by kernel_rfl
theorem mc_ImaginaryType (args : Array Value) (w : World) : (callFunc 119 args).run Tryz.prog w = .ok (.enter 119 args) w := by kernel_rfl
theorem meth_ImaginaryType : Meth 79 119 := ⟨mt_ImaginaryType, mc_ImaginaryType⟩
theorem mt_Constructor (a : Addr) (w : World) : (method 281 49 (.pointer (some a)) "Traverse").run Tryz.prog w = .ok (89, .pointer (some a)) w := by kernel_rfl
theorem mc_Constructor (args : Array Value) (w : World) : (callFunc 89 args).run Tryz.prog w = .ok (.enter 89 args) w := by kernel_rfl
theorem meth_Constructor : Meth 49 89 := ⟨mt_Constructor, mc_Constructor⟩
theorem mt_Destructor (a : Addr) (w : World) : (method 281 53 (.pointer (some a)) "Traverse").run Tryz.prog w = .ok (92, .pointer (some a)) w := by kernel_rfl
theorem mc_Destructor (args : Array Value) (w : World) : (callFunc 92 args).run Tryz.prog w = .ok (.enter 92 args) w := by kernel_rfl
theorem meth_Destructor : Meth 53 92 := ⟨mt_Destructor, mc_Destructor⟩
theorem mt_Cast (a : Addr) (w : World) : (method 281 140 (.pointer (some a)) "Traverse").run Tryz.prog w = .ok (179, .pointer (some a)) w := by kernel_rfl
theorem mc_Cast (args : Array Value) (w : World) : (callFunc 179 args).run Tryz.prog w = .ok (.enter 179 args) w := by kernel_rfl
theorem meth_Cast : Meth 140 179 := ⟨mt_Cast, mc_Cast⟩
theorem mt_Literal (a : Addr) (w : World) : (method 281 112 (.pointer (some a)) "Traverse").run Tryz.prog w = .ok (152, .pointer (some a)) w := by kernel_rfl
theorem mc_Literal (args : Array Value) (w : World) : (callFunc 152 args).run Tryz.prog w = .ok (.enter 152 args) w := by kernel_rfl
theorem meth_Literal : Meth 112 152 := ⟨mt_Literal, mc_Literal⟩
theorem mt_Qualified (a : Addr) (w : World) : (method 281 56 (.pointer (some a)) "Traverse").run Tryz.prog w = .ok (95, .pointer (some a)) w := by kernel_rfl
theorem mc_Qualified (args : Array Value) (w : World) : (callFunc 95 args).run Tryz.prog w = .ok (.enter 95 args) w := by kernel_rfl
theorem meth_Qualified : Meth 56 95 := ⟨mt_Qualified, mc_Qualified⟩
theorem mt_Typed (a : Addr) (w : World) : (method 281 64 (.pointer (some a)) "Traverse").run Tryz.prog w = .ok (101, .pointer (some a)) w := by kernel_rfl
theorem mc_Typed (args : Array Value) (w : World) : (callFunc 101 args).run Tryz.prog w = .ok (.enter 101 args) w := by kernel_rfl
theorem meth_Typed : Meth 64 101 := ⟨mt_Typed, mc_Typed⟩
theorem mt_ArrayType (a : Addr) (w : World) : (method 281 94 (.pointer (some a)) "Traverse").run Tryz.prog w = .ok (134, .pointer (some a)) w := by kernel_rfl
theorem mc_ArrayType (args : Array Value) (w : World) : (callFunc 134 args).run Tryz.prog w = .ok (.enter 134 args) w := by kernel_rfl
theorem meth_ArrayType : Meth 94 134 := ⟨mt_ArrayType, mc_ArrayType⟩
theorem mt_PtrMem (a : Addr) (w : World) : (method 281 100 (.pointer (some a)) "Traverse").run Tryz.prog w = .ok (140, .pointer (some a)) w := by kernel_rfl
theorem mc_PtrMem (args : Array Value) (w : World) : (callFunc 140 args).run Tryz.prog w = .ok (.enter 140 args) w := by kernel_rfl
theorem meth_PtrMem : Meth 100 140 := ⟨mt_PtrMem, mc_PtrMem⟩
theorem mt_VectorType (a : Addr) (w : World) : (method 281 97 (.pointer (some a)) "Traverse").run Tryz.prog w = .ok (137, .pointer (some a)) w := by kernel_rfl
theorem mc_VectorType (args : Array Value) (w : World) : (callFunc 137 args).run Tryz.prog w = .ok (.enter 137 args) w := by kernel_rfl
theorem meth_VectorType : Meth 97 137 := ⟨mt_VectorType, mc_VectorType⟩
theorem mt_VendorQualifier (a : Addr) (w : World) : (method 281 103 (.pointer (some a)) "Traverse").run Tryz.prog w = .ok (143, .pointer (some a)) w := by kernel_rfl
theorem mc_VendorQualifier (args : Array Value) (w : World) : (callFunc 143 args).run Tryz.prog w = .ok (.enter 143 args) w := by kernel_rfl
theorem meth_VendorQualifier : Meth 103 143 := ⟨mt_VendorQualifier, mc_VendorQualifier⟩
theorem mt_TaggedName (a : Addr) (w : World) : (method 281 128 (.pointer (some a)) "Traverse").run Tryz.prog w = .ok (167, .pointer (some a)) w := by kernel_rfl
theorem mc_TaggedName (args : Array Value) (w : World) : (callFunc 167 args).run Tryz.prog w = .ok (.enter 167 args) w := by kernel_rfl
theorem meth_TaggedName : Meth 128 167 := ⟨mt_TaggedName, mc_TaggedName⟩
theorem mt_TypeWithQualifiers (a : Addr) (w : World) : (method 281 81 (.pointer (some a)) "Traverse").run Tryz.prog w = .ok (122, .pointer (some a)) w := by kernel_rfl
theorem mc_TypeWithQualifiers (args : Array Value) (w : World) : (callFunc 122 args).run Tryz.prog w = .ok (.enter 122 args) w := by kernel_rfl
theorem meth_TypeWithQualifiers : Meth 81 122 := ⟨mt_TypeWithQualifiers, mc_TypeWithQualifiers⟩
theorem mt_MethodWithQualifiers (a : Addr) (w : World) : (method 281 90 (.pointer (some a)) "Traverse").run Tryz.prog w = .ok (131, .pointer (some a)) w := by kernel_rfl
theorem mc_MethodWithQualifiers (args : Array Value) (w : World) : (callFunc 131 args).run Tryz.prog w = .ok (.enter 131 args) w := by kernel_rfl
theorem meth_MethodWithQualifiers : Meth 90 131 := ⟨mt_MethodWithQualifiers, mc_MethodWithQualifiers⟩
theorem mt_ArgumentPack (a : Addr) (w : World) : (method 281 115 (.pointer (some a)) "Traverse").run Tryz.prog w = .ok (155, .pointer (some a)) w := by kernel_rfl
theorem mc_ArgumentPack (args : Array Value) (w : World) : (callFunc 155 args).run Tryz.prog w = .ok (.enter 155 args) w := by kernel_rfl
theorem meth_ArgumentPack : Meth 115 155 := ⟨mt_ArgumentPack, mc_ArgumentPack⟩
theorem mt_Closure (a : Addr) (w : World) : (method 281 122 (.pointer (some a)) "Traverse").run Tryz.prog w = .ok (161, .pointer (some a)) w := by kernel_rfl
theorem mc_Closure (args : Array Value) (w : World) : (callFunc 161 args).run Tryz.prog w = .ok (.enter 161 args) w := by kernel_rfl
theorem meth_Closure : Meth 122 161 := ⟨mt_Closure, mc_Closure⟩
theorem mt_Template (a : Addr) (w : World) : (method 281 59 (.pointer (some a)) "Traverse").run Tryz.prog w = .ok (98, .pointer (some a)) w := by kernel_rfl
theorem mc_Template (args : Array Value) (w : World) : (callFunc 98 args).run Tryz.prog w = .ok (.enter 98 args) w := by kernel_rfl
theorem meth_Template : Meth 59 98 := ⟨mt_Template, mc_Template⟩
theorem mt_FunctionType (a : Addr) (w : World) : (method 281 67 (.pointer (some a)) "Traverse").run Tryz.prog w = .ok (104, .pointer (some a)) w := by kernel_rfl
theorem mc_FunctionType (args : Array Value) (w : World) : (callFunc 104 args).run Tryz.prog w = .ok (.enter 104 args) w := by kernel_rfl
theorem meth_FunctionType : Meth 67 104 := ⟨mt_FunctionType, mc_FunctionType⟩

set_option maxHeartbeats 2000000 in
theorem tr_Name (o s b : Nat) (stop : ByteArray) (w0 : World) (hb : b < w0.heap.size) (hbo : b ≠ o) :
    Goes o s stop w0 (⟨#[78, 97, 109, 101]⟩ :: (if (⟨#[78, 97, 109, 101]⟩ : ByteArray) = stop then [] else [])) (.iface 40 (.pointer (some ⟨b, 0, none⟩))) := by
  refine ⟨40, 80, b, rfl, meth_Name, fun w xs hst hlen => ?_⟩
  have HST := Lib.hid hst
  have HB := Lib.hid hb
  have HBO := Lib.hid hbo
  clear hst hb hbo
  rcases bt ((⟨#[78, 97, 109, 101]⟩ : ByteArray).toList == stop.toList) with q | q
  · have HQ := Lib.hid q
    rw [if_pos (eq_stop q)] at hlen ⊢
    clear q
    go_enter Tryz.func80, Tryz.ntmps80
    go_wp2_with fail
    refine (clo_any 40 ⟨#[78, 97, 109, 101]⟩ kindOf_Name o s stop _ xs w0 w HST.out (by simp at hlen; omega) true HQ.out).mono ?_
    rintro e w1 ⟨rfl, hs1⟩
    go_wp2_with fail
    go_end0
    exact ⟨rfl, hs1⟩
  · have HQ := Lib.hid q
    rw [if_neg (ne_stop q)] at hlen ⊢
    clear q
    simp only [List.length_cons] at hlen
    go_enter Tryz.func80, Tryz.ntmps80
    go_wp2_with fail
    refine (clo_any 40 ⟨#[78, 97, 109, 101]⟩ kindOf_Name o s stop _ xs w0 w HST.out (by omega) false HQ.out).mono ?_
    rintro e w1 ⟨rfl, hs1⟩
    go_wp2_with fail
    go_end0
    exact ⟨rfl, by simpa using hs1⟩

set_option maxHeartbeats 2000000 in
theorem tr_BuiltinType (o s b : Nat) (stop : ByteArray) (w0 : World) (hb : b < w0.heap.size) (hbo : b ≠ o) :
    Goes o s stop w0 (⟨#[66, 117, 105, 108, 116, 105, 110, 84, 121, 112, 101]⟩ :: (if (⟨#[66, 117, 105, 108, 116, 105, 110, 84, 121, 112, 101]⟩ : ByteArray) = stop then [] else [])) (.iface 43 (.pointer (some ⟨b, 0, none⟩))) := by
  refine ⟨43, 83, b, rfl, meth_BuiltinType, fun w xs hst hlen => ?_⟩
  have HST := Lib.hid hst
  have HB := Lib.hid hb
  have HBO := Lib.hid hbo
  clear hst hb hbo
  rcases bt ((⟨#[66, 117, 105, 108, 116, 105, 110, 84, 121, 112, 101]⟩ : ByteArray).toList == stop.toList) with q | q
  · have HQ := Lib.hid q
    rw [if_pos (eq_stop q)] at hlen ⊢
    clear q
    go_enter Tryz.func83, Tryz.ntmps83
    go_wp2_with fail
    refine (clo_any 43 ⟨#[66, 117, 105, 108, 116, 105, 110, 84, 121, 112, 101]⟩ kindOf_BuiltinType o s stop _ xs w0 w HST.out (by simp at hlen; omega) true HQ.out).mono ?_
    rintro e w1 ⟨rfl, hs1⟩
    go_wp2_with fail
    go_end0
    exact ⟨rfl, hs1⟩
  · have HQ := Lib.hid q
    rw [if_neg (ne_stop q)] at hlen ⊢
    clear q
    simp only [List.length_cons] at hlen
    go_enter Tryz.func83, Tryz.ntmps83
    go_wp2_with fail
    refine (clo_any 43 ⟨#[66, 117, 105, 108, 116, 105, 110, 84, 121, 112, 101]⟩ kindOf_BuiltinType o s stop _ xs w0 w HST.out (by omega) false HQ.out).mono ?_
    rintro e w1 ⟨rfl, hs1⟩
    go_wp2_with fail
    go_end0
    exact ⟨rfl, by simpa using hs1⟩

set_option maxHeartbeats 2000000 in
theorem tr_Operator (o s b : Nat) (stop : ByteArray) (w0 : World) (hb : b < w0.heap.size) (hbo : b ≠ o) :
    Goes o s stop w0 (⟨#[79, 112, 101, 114, 97, 116, 111, 114]⟩ :: (if (⟨#[79, 112, 101, 114, 97, 116, 111, 114]⟩ : ByteArray) = stop then [] else [])) (.iface 45 (.pointer (some ⟨b, 0, none⟩))) := by
  refine ⟨45, 86, b, rfl, meth_Operator, fun w xs hst hlen => ?_⟩
  have HST := Lib.hid hst
  have HB := Lib.hid hb
  have HBO := Lib.hid hbo
  clear hst hb hbo
  rcases bt ((⟨#[79, 112, 101, 114, 97, 116, 111, 114]⟩ : ByteArray).toList == stop.toList) with q | q
  · have HQ := Lib.hid q
    rw [if_pos (eq_stop q)] at hlen ⊢
    clear q
    go_enter Tryz.func86, Tryz.ntmps86
    go_wp2_with fail
    refine (clo_any 45 ⟨#[79, 112, 101, 114, 97, 116, 111, 114]⟩ kindOf_Operator o s stop _ xs w0 w HST.out (by simp at hlen; omega) true HQ.out).mono ?_
    rintro e w1 ⟨rfl, hs1⟩
    go_wp2_with fail
    go_end0
    exact ⟨rfl, hs1⟩
  · have HQ := Lib.hid q
    rw [if_neg (ne_stop q)] at hlen ⊢
    clear q
    simp only [List.length_cons] at hlen
    go_enter Tryz.func86, Tryz.ntmps86
    go_wp2_with fail
    refine (clo_any 45 ⟨#[79, 112, 101, 114, 97, 116, 111, 114]⟩ kindOf_Operator o s stop _ xs w0 w HST.out (by omega) false HQ.out).mono ?_
    rintro e w1 ⟨rfl, hs1⟩
    go_wp2_with fail
    go_end0
    exact ⟨rfl, by simpa using hs1⟩

set_option maxHeartbeats 2000000 in
theorem tr_UnnamedType (o s b : Nat) (stop : ByteArray) (w0 : World) (hb : b < w0.heap.size) (hbo : b ≠ o) :
    Goes o s stop w0 (⟨#[85, 110, 110, 97, 109, 101, 100, 84, 121, 112, 101]⟩ :: (if (⟨#[85, 110, 110, 97, 109, 101, 100, 84, 121, 112, 101]⟩ : ByteArray) = stop then [] else [])) (.iface 125 (.pointer (some ⟨b, 0, none⟩))) := by
  refine ⟨125, 164, b, rfl, meth_UnnamedType, fun w xs hst hlen => ?_⟩
  have HST := Lib.hid hst
  have HB := Lib.hid hb
  have HBO := Lib.hid hbo
  clear hst hb hbo
  rcases bt ((⟨#[85, 110, 110, 97, 109, 101, 100, 84, 121, 112, 101]⟩ : ByteArray).toList == stop.toList) with q | q
  · have HQ := Lib.hid q
    rw [if_pos (eq_stop q)] at hlen ⊢
    clear q
    go_enter Tryz.func164, Tryz.ntmps164
    go_wp2_with fail
    refine (clo_any 125 ⟨#[85, 110, 110, 97, 109, 101, 100, 84, 121, 112, 101]⟩ kindOf_UnnamedType o s stop _ xs w0 w HST.out (by simp at hlen; omega) true HQ.out).mono ?_
    rintro e w1 ⟨rfl, hs1⟩
    go_wp2_with fail
    go_end0
    exact ⟨rfl, hs1⟩
  · have HQ := Lib.hid q
    rw [if_neg (ne_stop q)] at hlen ⊢
    clear q
    simp only [List.length_cons] at hlen
    go_enter Tryz.func164, Tryz.ntmps164
    go_wp2_with fail
    refine (clo_any 125 ⟨#[85, 110, 110, 97, 109, 101, 100, 84, 121, 112, 101]⟩ kindOf_UnnamedType o s stop _ xs w0 w HST.out (by omega) false HQ.out).mono ?_
    rintro e w1 ⟨rfl, hs1⟩
    go_wp2_with fail
    go_end0
    exact ⟨rfl, by simpa using hs1⟩

set_option maxHeartbeats 2000000 in
theorem tr_PointerType (o s b : Nat) (stop : ByteArray) (w0 : World) (c : Value) (ks : List ByteArray) (hg : Goes o s stop w0 ks c) (hc : w0.cell? ⟨b, 0, none⟩ = some c) (hb : b < w0.heap.size) (hbo : b ≠ o) :
    Goes o s stop w0 (⟨#[80, 111, 105, 110, 116, 101, 114, 84, 121, 112, 101]⟩ :: (if (⟨#[80, 111, 105, 110, 116, 101, 114, 84, 121, 112, 101]⟩ : ByteArray) = stop then [] else ks)) (.iface 70 (.pointer (some ⟨b, 0, none⟩))) := by
  obtain ⟨T', f', b', rfl, hm, hgo⟩ := hg
  have H := Lib.hid hgo
  have HC := Lib.hid hc
  clear hgo hc
  refine ⟨70, 107, b, rfl, meth_PointerType, fun w xs hst hlen => ?_⟩
  have HST := Lib.hid hst
  have HB := Lib.hid hb
  have HBO := Lib.hid hbo
  clear hst hb hbo
  rcases bt ((⟨#[80, 111, 105, 110, 116, 101, 114, 84, 121, 112, 101]⟩ : ByteArray).toList == stop.toList) with q | q
  · have HQ := Lib.hid q
    rw [if_pos (eq_stop q)] at hlen ⊢
    clear q
    go_enter Tryz.func107, Tryz.ntmps107
    go_wp2_with fail
    refine (clo_any 70 ⟨#[80, 111, 105, 110, 116, 101, 114, 84, 121, 112, 101]⟩ kindOf_PointerType o s stop _ xs w0 w HST.out (by simp at hlen; omega) true HQ.out).mono ?_
    rintro e w1 ⟨rfl, hs1⟩
    go_wp2_with fail
    go_end0
    exact ⟨rfl, hs1⟩
  · have HQ := Lib.hid q
    rw [if_neg (ne_stop q)] at hlen ⊢
    clear q
    simp only [List.length_cons] at hlen
    go_enter Tryz.func107, Tryz.ntmps107
    go_wp2_with fail
    refine (clo_any 70 ⟨#[80, 111, 105, 110, 116, 101, 114, 84, 121, 112, 101]⟩ kindOf_PointerType o s stop _ xs w0 w HST.out (by omega) false HQ.out).mono ?_
    rintro e w1 ⟨rfl, hs1⟩
    have h0 := hs1.cell HB.out HBO.out HC.out
    have e1 := hm.m
    have e2 := hm.c
    have HS1 := Lib.hid hs1
    clear hs1
    go_wp2_with fail
    refine (H.out _ _ HS1.out (by simp; omega)).mono ?_
    rintro e w2 ⟨rfl, hs2⟩
    have HS2 := Lib.hid hs2
    clear hs2
    go_wp2_with fail
    go_end0
    exact ⟨rfl, by simpa using HS2.out⟩

set_option maxHeartbeats 2000000 in
theorem tr_ReferenceType (o s b : Nat) (stop : ByteArray) (w0 : World) (c : Value) (ks : List ByteArray) (hg : Goes o s stop w0 ks c) (hc : w0.cell? ⟨b, 0, none⟩ = some c) (hb : b < w0.heap.size) (hbo : b ≠ o) :
    Goes o s stop w0 (⟨#[82, 101, 102, 101, 114, 101, 110, 99, 101, 84, 121, 112, 101]⟩ :: (if (⟨#[82, 101, 102, 101, 114, 101, 110, 99, 101, 84, 121, 112, 101]⟩ : ByteArray) = stop then [] else ks)) (.iface 73 (.pointer (some ⟨b, 0, none⟩))) := by
  obtain ⟨T', f', b', rfl, hm, hgo⟩ := hg
  have H := Lib.hid hgo
  have HC := Lib.hid hc
  clear hgo hc
  refine ⟨73, 110, b, rfl, meth_ReferenceType, fun w xs hst hlen => ?_⟩
  have HST := Lib.hid hst
  have HB := Lib.hid hb
  have HBO := Lib.hid hbo
  clear hst hb hbo
  rcases bt ((⟨#[82, 101, 102, 101, 114, 101, 110, 99, 101, 84, 121, 112, 101]⟩ : ByteArray).toList == stop.toList) with q | q
  · have HQ := Lib.hid q
    rw [if_pos (eq_stop q)] at hlen ⊢
    clear q
    go_enter Tryz.func110, Tryz.ntmps110
    go_wp2_with fail
    refine (clo_any 73 ⟨#[82, 101, 102, 101, 114, 101, 110, 99, 101, 84, 121, 112, 101]⟩ kindOf_ReferenceType o s stop _ xs w0 w HST.out (by simp at hlen; omega) true HQ.out).mono ?_
    rintro e w1 ⟨rfl, hs1⟩
    go_wp2_with fail
    go_end0
    exact ⟨rfl, hs1⟩
  · have HQ := Lib.hid q
    rw [if_neg (ne_stop q)] at hlen ⊢
    clear q
    simp only [List.length_cons] at hlen
    go_enter Tryz.func110, Tryz.ntmps110
    go_wp2_with fail
    refine (clo_any 73 ⟨#[82, 101, 102, 101, 114, 101, 110, 99, 101, 84, 121, 112, 101]⟩ kindOf_ReferenceType o s stop _ xs w0 w HST.out (by omega) false HQ.out).mono ?_
    rintro e w1 ⟨rfl, hs1⟩
    have h0 := hs1.cell HB.out HBO.out HC.out
    have e1 := hm.m
    have e2 := hm.c
    have HS1 := Lib.hid hs1
    clear hs1
    go_wp2_with fail
    refine (H.out _ _ HS1.out (by simp; omega)).mono ?_
    rintro e w2 ⟨rfl, hs2⟩
    have HS2 := Lib.hid hs2
    clear hs2
    go_wp2_with fail
    go_end0
    exact ⟨rfl, by simpa using HS2.out⟩

set_option maxHeartbeats 2000000 in
theorem tr_RvalueReferenceType (o s b : Nat) (stop : ByteArray) (w0 : World) (c : Value) (ks : List ByteArray) (hg : Goes o s stop w0 ks c) (hc : w0.cell? ⟨b, 0, none⟩ = some c) (hb : b < w0.heap.size) (hbo : b ≠ o) :
    Goes o s stop w0 (⟨#[82, 118, 97, 108, 117, 101, 82, 101, 102, 101, 114, 101, 110, 99, 101, 84, 121, 112, 101]⟩ :: (if (⟨#[82, 118, 97, 108, 117, 101, 82, 101, 102, 101, 114, 101, 110, 99, 101, 84, 121, 112, 101]⟩ : ByteArray) = stop then [] else ks)) (.iface 75 (.pointer (some ⟨b, 0, none⟩))) := by
  obtain ⟨T', f', b', rfl, hm, hgo⟩ := hg
  have H := Lib.hid hgo
  have HC := Lib.hid hc
  clear hgo hc
  refine ⟨75, 113, b, rfl, meth_RvalueReferenceType, fun w xs hst hlen => ?_⟩
  have HST := Lib.hid hst
  have HB := Lib.hid hb
  have HBO := Lib.hid hbo
  clear hst hb hbo
  rcases bt ((⟨#[82, 118, 97, 108, 117, 101, 82, 101, 102, 101, 114, 101, 110, 99, 101, 84, 121, 112, 101]⟩ : ByteArray).toList == stop.toList) with q | q
  · have HQ := Lib.hid q
    rw [if_pos (eq_stop q)] at hlen ⊢
    clear q
    go_enter Tryz.func113, Tryz.ntmps113
    go_wp2_with fail
    refine (clo_any 75 ⟨#[82, 118, 97, 108, 117, 101, 82, 101, 102, 101, 114, 101, 110, 99, 101, 84, 121, 112, 101]⟩ kindOf_RvalueReferenceType o s stop _ xs w0 w HST.out (by simp at hlen; omega) true HQ.out).mono ?_
    rintro e w1 ⟨rfl, hs1⟩
    go_wp2_with fail
    go_end0
    exact ⟨rfl, hs1⟩
  · have HQ := Lib.hid q
    rw [if_neg (ne_stop q)] at hlen ⊢
    clear q
    simp only [List.length_cons] at hlen
    go_enter Tryz.func113, Tryz.ntmps113
    go_wp2_with fail
    refine (clo_any 75 ⟨#[82, 118, 97, 108, 117, 101, 82, 101, 102, 101, 114, 101, 110, 99, 101, 84, 121, 112, 101]⟩ kindOf_RvalueReferenceType o s stop _ xs w0 w HST.out (by omega) false HQ.out).mono ?_
    rintro e w1 ⟨rfl, hs1⟩
    have h0 := hs1.cell HB.out HBO.out HC.out
    have e1 := hm.m
    have e2 := hm.c
    have HS1 := Lib.hid hs1
    clear hs1
    go_wp2_with fail
    refine (H.out _ _ HS1.out (by simp; omega)).mono ?_
    rintro e w2 ⟨rfl, hs2⟩
    have HS2 := Lib.hid hs2
    clear hs2
    go_wp2_with fail
    go_end0
    exact ⟨rfl, by simpa using HS2.out⟩

set_option maxHeartbeats 2000000 in
theorem tr_ComplexType (o s b : Nat) (stop : ByteArray) (w0 : World) (c : Value) (ks : List ByteArray) (hg : Goes o s stop w0 ks c) (hc : w0.cell? ⟨b, 0, none⟩ = some c) (hb : b < w0.heap.size) (hbo : b ≠ o) :
    Goes o s stop w0 (⟨#[67, 111, 109, 112, 108, 101, 120, 84, 121, 112, 101]⟩ :: (if (⟨#[67, 111, 109, 112, 108, 101, 120, 84, 121, 112, 101]⟩ : ByteArray) = stop then [] else ks)) (.iface 77 (.pointer (some ⟨b, 0, none⟩))) := by
  obtain ⟨T', f', b', rfl, hm, hgo⟩ := hg
  have H := Lib.hid hgo
  have HC := Lib.hid hc
  clear hgo hc
  refine ⟨77, 116, b, rfl, meth_ComplexType, fun w xs hst hlen => ?_⟩
  have HST := Lib.hid hst
  have HB := Lib.hid hb
  have HBO := Lib.hid hbo
  clear hst hb hbo
  rcases bt ((⟨#[67, 111, 109, 112, 108, 101, 120, 84, 121, 112, 101]⟩ : ByteArray).toList == stop.toList) with q | q
  · have HQ := Lib.hid q
    rw [if_pos (eq_stop q)] at hlen ⊢
    clear q
    go_enter Tryz.func116, Tryz.ntmps116
    go_wp2_with fail
    refine (clo_any 77 ⟨#[67, 111, 109, 112, 108, 101, 120, 84, 121, 112, 101]⟩ kindOf_ComplexType o s stop _ xs w0 w HST.out (by simp at hlen; omega) true HQ.out).mono ?_
    rintro e w1 ⟨rfl, hs1⟩
    go_wp2_with fail
    go_end0
    exact ⟨rfl, hs1⟩
  · have HQ := Lib.hid q
    rw [if_neg (ne_stop q)] at hlen ⊢
    clear q
    simp only [List.length_cons] at hlen
    go_enter Tryz.func116, Tryz.ntmps116
    go_wp2_with fail
    refine (clo_any 77 ⟨#[67, 111, 109, 112, 108, 101, 120, 84, 121, 112, 101]⟩ kindOf_ComplexType o s stop _ xs w0 w HST.out (by omega) false HQ.out).mono ?_
    rintro e w1 ⟨rfl, hs1⟩
    have h0 := hs1.cell HB.out HBO.out HC.out
    have e1 := hm.m
    have e2 := hm.c
    have HS1 := Lib.hid hs1
    clear hs1
    go_wp2_with fail
    refine (H.out _ _ HS1.out (by simp; omega)).mono ?_
    rintro e w2 ⟨rfl, hs2⟩
    have HS2 := Lib.hid hs2
    clear hs2
    go_wp2_with fail
    go_end0
    exact ⟨rfl, by simpa using HS2.out⟩

set_option maxHeartbeats 2000000 in
theorem tr_ImaginaryType (o s b : Nat) (stop : ByteArray) (w0 : World) (c : Value) (ks : List ByteArray) (hg : Goes o s stop w0 ks c) (hc : w0.cell? ⟨b, 0, none⟩ = some c) (hb : b < w0.heap.size) (hbo : b ≠ o) :
    Goes o s stop w0 (⟨#[73, 109, 97, 103, 105, 110, 97, 114, 121, 84, 121, 112, 101]⟩ :: (if (⟨#[73, 109, 97, 103, 105, 110, 97, 114, 121, 84, 121, 112, 101]⟩ : ByteArray) = stop then [] else ks)) (.iface 79 (.pointer (some ⟨b, 0, none⟩))) := by
  obtain ⟨T', f', b', rfl, hm, hgo⟩ := hg
  have H := Lib.hid hgo
  have HC := Lib.hid hc
  clear hgo hc
  refine ⟨79, 119, b, rfl, meth_ImaginaryType, fun w xs hst hlen => ?_⟩
  have HST := Lib.hid hst
  have HB := Lib.hid hb
  have HBO := Lib.hid hbo
  clear hst hb hbo
  rcases bt ((⟨#[73, 109, 97, 103, 105, 110, 97, 114, 121, 84, 121, 112, 101]⟩ : ByteArray).toList == stop.toList) with q | q
  · have HQ := Lib.hid q
    rw [if_pos (eq_stop q)] at hlen ⊢
    clear q
    go_enter Tryz.func119, Tryz.ntmps119
    go_wp2_with fail
    refine (clo_any 79 ⟨#[73, 109, 97, 103, 105, 110, 97, 114, 121, 84, 121, 112, 101]⟩ kindOf_ImaginaryType o s stop _ xs w0 w HST.out (by simp at hlen; omega) true HQ.out).mono ?_
    rintro e w1 ⟨rfl, hs1⟩
    go_wp2_with fail
    go_end0
    exact ⟨rfl, hs1⟩
  · have HQ := Lib.hid q
    rw [if_neg (ne_stop q)] at hlen ⊢
    clear q
    simp only [List.length_cons] at hlen
    go_enter Tryz.func119, Tryz.ntmps119
    go_wp2_with fail
    refine (clo_any 79 ⟨#[73, 109, 97, 103, 105, 110, 97, 114, 121, 84, 121, 112, 101]⟩ kindOf_ImaginaryType o s stop _ xs w0 w HST.out (by omega) false HQ.out).mono ?_
    rintro e w1 ⟨rfl, hs1⟩
    have h0 := hs1.cell HB.out HBO.out HC.out
    have e1 := hm.m
    have e2 := hm.c
    have HS1 := Lib.hid hs1
    clear hs1
    go_wp2_with fail
    refine (H.out _ _ HS1.out (by simp; omega)).mono ?_
    rintro e w2 ⟨rfl, hs2⟩
    have HS2 := Lib.hid hs2
    clear hs2
    go_wp2_with fail
    go_end0
    exact ⟨rfl, by simpa using HS2.out⟩

set_option maxHeartbeats 2000000 in
theorem tr_Constructor (o s b : Nat) (stop : ByteArray) (w0 : World) (c : Value) (ks : List ByteArray) (hg : Goes o s stop w0 ks c) (hc : w0.cell? ⟨b, 0, none⟩ = some c) (hc1 : w0.cell? ⟨b, 1, none⟩ = some .nilIface) (hb : b < w0.heap.size) (hbo : b ≠ o) :
    Goes o s stop w0 (⟨#[67, 111, 110, 115, 116, 114, 117, 99, 116, 111, 114]⟩ :: (if (⟨#[67, 111, 110, 115, 116, 114, 117, 99, 116, 111, 114]⟩ : ByteArray) = stop then [] else ks)) (.iface 49 (.pointer (some ⟨b, 0, none⟩))) := by
  obtain ⟨T', f', b', rfl, hm, hgo⟩ := hg
  have H := Lib.hid hgo
  have HC := Lib.hid hc
  have HC1 := Lib.hid hc1
  clear hgo hc hc1
  refine ⟨49, 89, b, rfl, meth_Constructor, fun w xs hst hlen => ?_⟩
  have HST := Lib.hid hst
  have HB := Lib.hid hb
  have HBO := Lib.hid hbo
  clear hst hb hbo
  rcases bt ((⟨#[67, 111, 110, 115, 116, 114, 117, 99, 116, 111, 114]⟩ : ByteArray).toList == stop.toList) with q | q
  · have HQ := Lib.hid q
    rw [if_pos (eq_stop q)] at hlen ⊢
    clear q
    go_enter Tryz.func89, Tryz.ntmps89
    go_wp2_with fail
    refine (clo_any 49 ⟨#[67, 111, 110, 115, 116, 114, 117, 99, 116, 111, 114]⟩ kindOf_Constructor o s stop _ xs w0 w HST.out (by simp at hlen; omega) true HQ.out).mono ?_
    rintro e w1 ⟨rfl, hs1⟩
    go_wp2_with fail
    go_end0
    exact ⟨rfl, hs1⟩
  · have HQ := Lib.hid q
    rw [if_neg (ne_stop q)] at hlen ⊢
    clear q
    simp only [List.length_cons] at hlen
    go_enter Tryz.func89, Tryz.ntmps89
    go_wp2_with fail
    refine (clo_any 49 ⟨#[67, 111, 110, 115, 116, 114, 117, 99, 116, 111, 114]⟩ kindOf_Constructor o s stop _ xs w0 w HST.out (by omega) false HQ.out).mono ?_
    rintro e w1 ⟨rfl, hs1⟩
    have h0 := hs1.cell HB.out HBO.out HC.out
    have e1 := hm.m
    have e2 := hm.c
    have HS1 := Lib.hid hs1
    clear hs1
    go_wp2_with fail
    refine (H.out _ _ HS1.out (by simp; omega)).mono ?_
    rintro e w2 ⟨rfl, hs2⟩
    have h1 := hs2.cell HB.out HBO.out HC1.out
    have HS2 := Lib.hid hs2
    clear hs2
    go_wp2_with fail
    go_end0
    exact ⟨rfl, by simpa using HS2.out⟩

set_option maxHeartbeats 2000000 in
theorem tr_Destructor (o s b : Nat) (stop : ByteArray) (w0 : World) (c : Value) (ks : List ByteArray) (hg : Goes o s stop w0 ks c) (hc : w0.cell? ⟨b, 0, none⟩ = some c) (hb : b < w0.heap.size) (hbo : b ≠ o) :
    Goes o s stop w0 (⟨#[68, 101, 115, 116, 114, 117, 99, 116, 111, 114]⟩ :: (if (⟨#[68, 101, 115, 116, 114, 117, 99, 116, 111, 114]⟩ : ByteArray) = stop then [] else ks)) (.iface 53 (.pointer (some ⟨b, 0, none⟩))) := by
  obtain ⟨T', f', b', rfl, hm, hgo⟩ := hg
  have H := Lib.hid hgo
  have HC := Lib.hid hc
  clear hgo hc
  refine ⟨53, 92, b, rfl, meth_Destructor, fun w xs hst hlen => ?_⟩
  have HST := Lib.hid hst
  have HB := Lib.hid hb
  have HBO := Lib.hid hbo
  clear hst hb hbo
  rcases bt ((⟨#[68, 101, 115, 116, 114, 117, 99, 116, 111, 114]⟩ : ByteArray).toList == stop.toList) with q | q
  · have HQ := Lib.hid q
    rw [if_pos (eq_stop q)] at hlen ⊢
    clear q
    go_enter Tryz.func92, Tryz.ntmps92
    go_wp2_with fail
    refine (clo_any 53 ⟨#[68, 101, 115, 116, 114, 117, 99, 116, 111, 114]⟩ kindOf_Destructor o s stop _ xs w0 w HST.out (by simp at hlen; omega) true HQ.out).mono ?_
    rintro e w1 ⟨rfl, hs1⟩
    go_wp2_with fail
    go_end0
    exact ⟨rfl, hs1⟩
  · have HQ := Lib.hid q
    rw [if_neg (ne_stop q)] at hlen ⊢
    clear q
    simp only [List.length_cons] at hlen
    go_enter Tryz.func92, Tryz.ntmps92
    go_wp2_with fail
    refine (clo_any 53 ⟨#[68, 101, 115, 116, 114, 117, 99, 116, 111, 114]⟩ kindOf_Destructor o s stop _ xs w0 w HST.out (by omega) false HQ.out).mono ?_
    rintro e w1 ⟨rfl, hs1⟩
    have h0 := hs1.cell HB.out HBO.out HC.out
    have e1 := hm.m
    have e2 := hm.c
    have HS1 := Lib.hid hs1
    clear hs1
    go_wp2_with fail
    refine (H.out _ _ HS1.out (by simp; omega)).mono ?_
    rintro e w2 ⟨rfl, hs2⟩
    have HS2 := Lib.hid hs2
    clear hs2
    go_wp2_with fail
    go_end0
    exact ⟨rfl, by simpa using HS2.out⟩

set_option maxHeartbeats 2000000 in
theorem tr_Cast (o s b : Nat) (stop : ByteArray) (w0 : World) (c : Value) (ks : List ByteArray) (hg : Goes o s stop w0 ks c) (hc : w0.cell? ⟨b, 0, none⟩ = some c) (hb : b < w0.heap.size) (hbo : b ≠ o) :
    Goes o s stop w0 (⟨#[67, 97, 115, 116]⟩ :: (if (⟨#[67, 97, 115, 116]⟩ : ByteArray) = stop then [] else ks)) (.iface 140 (.pointer (some ⟨b, 0, none⟩))) := by
  obtain ⟨T', f', b', rfl, hm, hgo⟩ := hg
  have H := Lib.hid hgo
  have HC := Lib.hid hc
  clear hgo hc
  refine ⟨140, 179, b, rfl, meth_Cast, fun w xs hst hlen => ?_⟩
  have HST := Lib.hid hst
  have HB := Lib.hid hb
  have HBO := Lib.hid hbo
  clear hst hb hbo
  rcases bt ((⟨#[67, 97, 115, 116]⟩ : ByteArray).toList == stop.toList) with q | q
  · have HQ := Lib.hid q
    rw [if_pos (eq_stop q)] at hlen ⊢
    clear q
    go_enter Tryz.func179, Tryz.ntmps179
    go_wp2_with fail
    refine (clo_any 140 ⟨#[67, 97, 115, 116]⟩ kindOf_Cast o s stop _ xs w0 w HST.out (by simp at hlen; omega) true HQ.out).mono ?_
    rintro e w1 ⟨rfl, hs1⟩
    go_wp2_with fail
    go_end0
    exact ⟨rfl, hs1⟩
  · have HQ := Lib.hid q
    rw [if_neg (ne_stop q)] at hlen ⊢
    clear q
    simp only [List.length_cons] at hlen
    go_enter Tryz.func179, Tryz.ntmps179
    go_wp2_with fail
    refine (clo_any 140 ⟨#[67, 97, 115, 116]⟩ kindOf_Cast o s stop _ xs w0 w HST.out (by omega) false HQ.out).mono ?_
    rintro e w1 ⟨rfl, hs1⟩
    have h0 := hs1.cell HB.out HBO.out HC.out
    have e1 := hm.m
    have e2 := hm.c
    have HS1 := Lib.hid hs1
    clear hs1
    go_wp2_with fail
    refine (H.out _ _ HS1.out (by simp; omega)).mono ?_
    rintro e w2 ⟨rfl, hs2⟩
    have HS2 := Lib.hid hs2
    clear hs2
    go_wp2_with fail
    go_end0
    exact ⟨rfl, by simpa using HS2.out⟩

set_option maxHeartbeats 2000000 in
theorem tr_Literal (o s b : Nat) (stop : ByteArray) (w0 : World) (c : Value) (ks : List ByteArray) (hg : Goes o s stop w0 ks c) (hc : w0.cell? ⟨b, 0, none⟩ = some c) (hb : b < w0.heap.size) (hbo : b ≠ o) :
    Goes o s stop w0 (⟨#[76, 105, 116, 101, 114, 97, 108]⟩ :: (if (⟨#[76, 105, 116, 101, 114, 97, 108]⟩ : ByteArray) = stop then [] else ks)) (.iface 112 (.pointer (some ⟨b, 0, none⟩))) := by
  obtain ⟨T', f', b', rfl, hm, hgo⟩ := hg
  have H := Lib.hid hgo
  have HC := Lib.hid hc
  clear hgo hc
  refine ⟨112, 152, b, rfl, meth_Literal, fun w xs hst hlen => ?_⟩
  have HST := Lib.hid hst
  have HB := Lib.hid hb
  have HBO := Lib.hid hbo
  clear hst hb hbo
  rcases bt ((⟨#[76, 105, 116, 101, 114, 97, 108]⟩ : ByteArray).toList == stop.toList) with q | q
  · have HQ := Lib.hid q
    rw [if_pos (eq_stop q)] at hlen ⊢
    clear q
    go_enter Tryz.func152, Tryz.ntmps152
    go_wp2_with fail
    refine (clo_any 112 ⟨#[76, 105, 116, 101, 114, 97, 108]⟩ kindOf_Literal o s stop _ xs w0 w HST.out (by simp at hlen; omega) true HQ.out).mono ?_
    rintro e w1 ⟨rfl, hs1⟩
    go_wp2_with fail
    go_end0
    exact ⟨rfl, hs1⟩
  · have HQ := Lib.hid q
    rw [if_neg (ne_stop q)] at hlen ⊢
    clear q
    simp only [List.length_cons] at hlen
    go_enter Tryz.func152, Tryz.ntmps152
    go_wp2_with fail
    refine (clo_any 112 ⟨#[76, 105, 116, 101, 114, 97, 108]⟩ kindOf_Literal o s stop _ xs w0 w HST.out (by omega) false HQ.out).mono ?_
    rintro e w1 ⟨rfl, hs1⟩
    have h0 := hs1.cell HB.out HBO.out HC.out
    have e1 := hm.m
    have e2 := hm.c
    have HS1 := Lib.hid hs1
    clear hs1
    go_wp2_with fail
    refine (H.out _ _ HS1.out (by simp; omega)).mono ?_
    rintro e w2 ⟨rfl, hs2⟩
    have HS2 := Lib.hid hs2
    clear hs2
    go_wp2_with fail
    go_end0
    exact ⟨rfl, by simpa using HS2.out⟩

set_option maxHeartbeats 2000000 in
theorem tr_TypeWithQualifiers (o s b : Nat) (stop : ByteArray) (w0 : World) (c : Value) (ks : List ByteArray) (hg : Goes o s stop w0 ks c) (hc : w0.cell? ⟨b, 0, none⟩ = some c) (hb : b < w0.heap.size) (hbo : b ≠ o) :
    Goes o s stop w0 (⟨#[84, 121, 112, 101, 87, 105, 116, 104, 81, 117, 97, 108, 105, 102, 105, 101, 114, 115]⟩ :: (if (⟨#[84, 121, 112, 101, 87, 105, 116, 104, 81, 117, 97, 108, 105, 102, 105, 101, 114, 115]⟩ : ByteArray) = stop then [] else ks)) (.iface 81 (.pointer (some ⟨b, 0, none⟩))) := by
  obtain ⟨T', f', b', rfl, hm, hgo⟩ := hg
  have H := Lib.hid hgo
  have HC := Lib.hid hc
  clear hgo hc
  refine ⟨81, 122, b, rfl, meth_TypeWithQualifiers, fun w xs hst hlen => ?_⟩
  have HST := Lib.hid hst
  have HB := Lib.hid hb
  have HBO := Lib.hid hbo
  clear hst hb hbo
  rcases bt ((⟨#[84, 121, 112, 101, 87, 105, 116, 104, 81, 117, 97, 108, 105, 102, 105, 101, 114, 115]⟩ : ByteArray).toList == stop.toList) with q | q
  · have HQ := Lib.hid q
    rw [if_pos (eq_stop q)] at hlen ⊢
    clear q
    go_enter Tryz.func122, Tryz.ntmps122
    go_wp2_with fail
    refine (clo_any 81 ⟨#[84, 121, 112, 101, 87, 105, 116, 104, 81, 117, 97, 108, 105, 102, 105, 101, 114, 115]⟩ kindOf_TypeWithQualifiers o s stop _ xs w0 w HST.out (by simp at hlen; omega) true HQ.out).mono ?_
    rintro e w1 ⟨rfl, hs1⟩
    go_wp2_with fail
    go_end0
    exact ⟨rfl, hs1⟩
  · have HQ := Lib.hid q
    rw [if_neg (ne_stop q)] at hlen ⊢
    clear q
    simp only [List.length_cons] at hlen
    go_enter Tryz.func122, Tryz.ntmps122
    go_wp2_with fail
    refine (clo_any 81 ⟨#[84, 121, 112, 101, 87, 105, 116, 104, 81, 117, 97, 108, 105, 102, 105, 101, 114, 115]⟩ kindOf_TypeWithQualifiers o s stop _ xs w0 w HST.out (by omega) false HQ.out).mono ?_
    rintro e w1 ⟨rfl, hs1⟩
    have h0 := hs1.cell HB.out HBO.out HC.out
    have e1 := hm.m
    have e2 := hm.c
    have HS1 := Lib.hid hs1
    clear hs1
    go_wp2_with fail
    refine (H.out _ _ HS1.out (by simp; omega)).mono ?_
    rintro e w2 ⟨rfl, hs2⟩
    have HS2 := Lib.hid hs2
    clear hs2
    go_wp2_with fail
    go_end0
    exact ⟨rfl, by simpa using HS2.out⟩

set_option maxHeartbeats 2000000 in
theorem tr_MethodWithQualifiers (o s b : Nat) (stop : ByteArray) (w0 : World) (c : Value) (ks : List ByteArray) (hg : Goes o s stop w0 ks c) (hc : w0.cell? ⟨b, 0, none⟩ = some c) (hb : b < w0.heap.size) (hbo : b ≠ o) :
    Goes o s stop w0 (⟨#[77, 101, 116, 104, 111, 100, 87, 105, 116, 104, 81, 117, 97, 108, 105, 102, 105, 101, 114, 115]⟩ :: (if (⟨#[77, 101, 116, 104, 111, 100, 87, 105, 116, 104, 81, 117, 97, 108, 105, 102, 105, 101, 114, 115]⟩ : ByteArray) = stop then [] else ks)) (.iface 90 (.pointer (some ⟨b, 0, none⟩))) := by
  obtain ⟨T', f', b', rfl, hm, hgo⟩ := hg
  have H := Lib.hid hgo
  have HC := Lib.hid hc
  clear hgo hc
  refine ⟨90, 131, b, rfl, meth_MethodWithQualifiers, fun w xs hst hlen => ?_⟩
  have HST := Lib.hid hst
  have HB := Lib.hid hb
  have HBO := Lib.hid hbo
  clear hst hb hbo
  rcases bt ((⟨#[77, 101, 116, 104, 111, 100, 87, 105, 116, 104, 81, 117, 97, 108, 105, 102, 105, 101, 114, 115]⟩ : ByteArray).toList == stop.toList) with q | q
  · have HQ := Lib.hid q
    rw [if_pos (eq_stop q)] at hlen ⊢
    clear q
    go_enter Tryz.func131, Tryz.ntmps131
    go_wp2_with fail
    refine (clo_any 90 ⟨#[77, 101, 116, 104, 111, 100, 87, 105, 116, 104, 81, 117, 97, 108, 105, 102, 105, 101, 114, 115]⟩ kindOf_MethodWithQualifiers o s stop _ xs w0 w HST.out (by simp at hlen; omega) true HQ.out).mono ?_
    rintro e w1 ⟨rfl, hs1⟩
    go_wp2_with fail
    go_end0
    exact ⟨rfl, hs1⟩
  · have HQ := Lib.hid q
    rw [if_neg (ne_stop q)] at hlen ⊢
    clear q
    simp only [List.length_cons] at hlen
    go_enter Tryz.func131, Tryz.ntmps131
    go_wp2_with fail
    refine (clo_any 90 ⟨#[77, 101, 116, 104, 111, 100, 87, 105, 116, 104, 81, 117, 97, 108, 105, 102, 105, 101, 114, 115]⟩ kindOf_MethodWithQualifiers o s stop _ xs w0 w HST.out (by omega) false HQ.out).mono ?_
    rintro e w1 ⟨rfl, hs1⟩
    have h0 := hs1.cell HB.out HBO.out HC.out
    have e1 := hm.m
    have e2 := hm.c
    have HS1 := Lib.hid hs1
    clear hs1
    go_wp2_with fail
    refine (H.out _ _ HS1.out (by simp; omega)).mono ?_
    rintro e w2 ⟨rfl, hs2⟩
    have HS2 := Lib.hid hs2
    clear hs2
    go_wp2_with fail
    go_end0
    exact ⟨rfl, by simpa using HS2.out⟩

end Go.Proofs.YtdlhhdhooacogaaGreatDoor

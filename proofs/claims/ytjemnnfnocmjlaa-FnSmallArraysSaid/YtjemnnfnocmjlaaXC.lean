/-
  FnSmallSeldom, walked: complex, imaginary and vector types, a vendor's qualifier, whatever the texts.
-/
import Derived.Test.YtjemnnfnocmjlaaR2
namespace Go.Proofs.Ytjemnnfnocmjlaa
open Go.RowKit

theorem PX.mk {A : Nat} {w : World} {σ : PS} {iv : Value} {inner pr : List Value} (h : PSt A w { σ with iv := iv, inner := inner } pr) : PX A w σ inner pr := ⟨iv, h⟩

theorem writeStringX (A : Nat) (w : World) (σ : PS) (inner pr : List Value) (s : ByteArray) (h : PX A w σ inner pr) (hl : σ.out.length + s.size ≤ 140737488355328) :
    Calls Try.prog 63 #[.pointer (some ⟨A, 0, none⟩), .string s] w fun e w' => e = .returned (.tuple #[]) ∧ PX A w' (σ.text s.data.toList) inner pr ∧ Below A w w' := by
  obtain ⟨iv, h⟩ := h
  exact (writeString_any A w _ pr s h hl).mono fun _ _ ⟨h1, h2, h3⟩ => ⟨h1, ⟨iv, h2⟩, h3⟩

theorem writeByteX (A : Nat) (w : World) (σ : PS) (inner pr : List Value) (b : UInt8) (c : Int) (hc : c = (b.toNat : Int)) (h : PX A w σ inner pr) (hl : σ.out.length + 1 ≤ 140737488355328) :
    Calls Try.prog 61 #[.pointer (some ⟨A, 0, none⟩), .int .u8 c] w fun e w' => e = .returned (.tuple #[]) ∧ PX A w' (σ.byte b) inner pr ∧ Below A w w' := by
  obtain ⟨iv, h⟩ := h
  exact (writeByte_any A w _ pr b c hc h hl).mono fun _ _ ⟨h1, h2, h3⟩ => ⟨h1, ⟨iv, h2⟩, h3⟩

theorem startScopeX (A : Nat) (w : World) (σ : PS) (inner pr : List Value) (b : UInt8) (c : Int) (hc : c = (b.toNat : Int)) (h : PX A w σ inner pr) (hl : σ.out.length + 1 ≤ 140737488355328) (h0 : -1000000 ≤ σ.scopes) (h1 : σ.scopes ≤ 1000000) :
    Calls Try.prog 62 #[.pointer (some ⟨A, 0, none⟩), .int .u8 c] w fun e w' => e = .returned (.tuple #[]) ∧ PX A w' ((σ.scope (σ.scopes + 1)).byte b) inner pr ∧ Below A w w' := by
  obtain ⟨iv, h⟩ := h
  exact (startScope_any A w _ pr b c hc h hl h0 h1).mono fun _ _ ⟨h1, h2, h3⟩ => ⟨h1, ⟨iv, h2⟩, h3⟩

theorem endScopeX (A : Nat) (w : World) (σ : PS) (inner pr : List Value) (b : UInt8) (c : Int) (hc : c = (b.toNat : Int)) (h : PX A w σ inner pr) (hl : σ.out.length + 1 ≤ 140737488355328) (h0 : -1000000 ≤ σ.scopes) (h1 : σ.scopes ≤ 1000000) :
    Calls Try.prog 64 #[.pointer (some ⟨A, 0, none⟩), .int .u8 c] w fun e w' => e = .returned (.tuple #[]) ∧ PX A w' ((σ.scope (σ.scopes - 1)).byte b) inner pr ∧ Below A w w' := by
  obtain ⟨iv, h⟩ := h
  exact (endScope_any A w _ pr b c hc h hl h0 h1).mono fun _ _ ⟨h1, h2, h3⟩ => ⟨h1, ⟨iv, h2⟩, h3⟩

theorem print_nameX (A b : Nat) (s : ByteArray) (w : World) (σ : PS) (inner pr : List Value) (h : PX A w σ inner pr) (he : El A w b #[.string s] 99) (ho : Others A w b pr) (hl : pr.length ≤ 100000) (hs : σ.out.length + s.size ≤ 140737488355328) :
    Calls Try.prog 60 #[.pointer (some ⟨A, 0, none⟩), .iface 97 (.pointer (some ⟨b, 0, none⟩))] w fun e w' => e = .returned (.tuple #[]) ∧ PX A w' (σ.text s.data.toList) inner pr ∧ Below A w w' := by
  obtain ⟨iv, h⟩ := h
  exact (print_name A b s w _ pr h he ho hl hs).mono fun _ _ ⟨h1, h2, h3⟩ => ⟨h1, ⟨iv, h2⟩, h3⟩

theorem print_builtinX (A b : Nat) (s : ByteArray) (w : World) (σ : PS) (inner pr : List Value) (h : PX A w σ inner pr) (hv : σ.llvm = false) (he : El A w b #[.string s] 101) (ho : Others A w b pr) (hl : pr.length ≤ 100000) (hs : σ.out.length + s.size ≤ 140737488355328) :
    Calls Try.prog 60 #[.pointer (some ⟨A, 0, none⟩), .iface 100 (.pointer (some ⟨b, 0, none⟩))] w fun e w' => e = .returned (.tuple #[]) ∧ PX A w' (σ.text s.data.toList) inner pr ∧ Below A w w' := by
  obtain ⟨iv, h⟩ := h
  exact (print_builtin A b s w _ pr h hv he ho hl hs).mono fun _ _ ⟨h1, h2, h3⟩ => ⟨h1, ⟨iv, h2⟩, h3⟩

theorem PS.text_out (σ : PS) (l : List UInt8) : (σ.text l).out = σ.out ++ l := rfl
theorem PS.byte_out (σ : PS) (b : UInt8) : (σ.byte b).out = σ.out ++ [b] := rfl

theorem mtComplexType (a : Addr) (w : World) : (method 304 71 (.pointer (some a)) "loop.example/pub-g01448/pub/demangle.print").run Try.prog w = .ok (104, .pointer (some a)) w := by kernel_rfl
theorem ccComplexType (args : Array Value) (w : World) : (callFunc 104 args).run Try.prog w = .ok (.enter 104 args) w := by kernel_rfl
theorem ntComplexType : NodeT 71 104 := meth_of 73 1 Try.underlying71 (by kernel_rfl) (by kernel_rfl) (by decide) mtComplexType ccComplexType

theorem iaComplexType (p : Value) (w : World) : (Instr.typeAssert (.iface 71 p) 49 173 true).run Try.prog w = .ok (.tuple #[.iface 71 p, .bool true]) w := by kernel_rfl
theorem ibComplexType (p : Value) (w : World) : (Instr.typeAssert (.iface 71 p) 49 173 false).run Try.prog w = .ok (.iface 71 p) w := by kernel_rfl
theorem imComplexType (a : Addr) (w : World) : (method 304 71 (.pointer (some a)) "loop.example/pub-g01448/pub/demangle.printInner").run Try.prog w = .ok (184, .pointer (some a)) w := by kernel_rfl
theorem icComplexType (args : Array Value) (w : World) : (callFunc 184 args).run Try.prog w = .ok (.enter 184 args) w := by kernel_rfl
theorem inComplexType : InnerT 71 184 := ⟨iaComplexType, ibComplexType, imComplexType, icComplexType⟩

theorem mtImaginaryType (a : Addr) (w : World) : (method 304 74 (.pointer (some a)) "loop.example/pub-g01448/pub/demangle.print").run Try.prog w = .ok (108, .pointer (some a)) w := by kernel_rfl
theorem ccImaginaryType (args : Array Value) (w : World) : (callFunc 108 args).run Try.prog w = .ok (.enter 108 args) w := by kernel_rfl
theorem ntImaginaryType : NodeT 74 108 := meth_of 75 1 Try.underlying74 (by kernel_rfl) (by kernel_rfl) (by decide) mtImaginaryType ccImaginaryType

theorem iaImaginaryType (p : Value) (w : World) : (Instr.typeAssert (.iface 74 p) 49 173 true).run Try.prog w = .ok (.tuple #[.iface 74 p, .bool true]) w := by kernel_rfl
theorem ibImaginaryType (p : Value) (w : World) : (Instr.typeAssert (.iface 74 p) 49 173 false).run Try.prog w = .ok (.iface 74 p) w := by kernel_rfl
theorem imImaginaryType (a : Addr) (w : World) : (method 304 74 (.pointer (some a)) "loop.example/pub-g01448/pub/demangle.printInner").run Try.prog w = .ok (109, .pointer (some a)) w := by kernel_rfl
theorem icImaginaryType (args : Array Value) (w : World) : (callFunc 109 args).run Try.prog w = .ok (.enter 109 args) w := by kernel_rfl
theorem inImaginaryType : InnerT 74 109 := ⟨iaImaginaryType, ibImaginaryType, imImaginaryType, icImaginaryType⟩

theorem mtVectorType (a : Addr) (w : World) : (method 304 76 (.pointer (some a)) "loop.example/pub-g01448/pub/demangle.print").run Try.prog w = .ok (112, .pointer (some a)) w := by kernel_rfl
theorem ccVectorType (args : Array Value) (w : World) : (callFunc 112 args).run Try.prog w = .ok (.enter 112 args) w := by kernel_rfl
theorem ntVectorType : NodeT 76 112 := meth_of 78 2 Try.underlying76 (by kernel_rfl) (by kernel_rfl) (by decide) mtVectorType ccVectorType

theorem iaVectorType (p : Value) (w : World) : (Instr.typeAssert (.iface 76 p) 49 173 true).run Try.prog w = .ok (.tuple #[.iface 76 p, .bool true]) w := by kernel_rfl
theorem ibVectorType (p : Value) (w : World) : (Instr.typeAssert (.iface 76 p) 49 173 false).run Try.prog w = .ok (.iface 76 p) w := by kernel_rfl
theorem imVectorType (a : Addr) (w : World) : (method 304 76 (.pointer (some a)) "loop.example/pub-g01448/pub/demangle.printInner").run Try.prog w = .ok (113, .pointer (some a)) w := by kernel_rfl
theorem icVectorType (args : Array Value) (w : World) : (callFunc 113 args).run Try.prog w = .ok (.enter 113 args) w := by kernel_rfl
theorem inVectorType : InnerT 76 113 := ⟨iaVectorType, ibVectorType, imVectorType, icVectorType⟩

theorem mtVendorQualifier (a : Addr) (w : World) : (method 304 79 (.pointer (some a)) "loop.example/pub-g01448/pub/demangle.print").run Try.prog w = .ok (117, .pointer (some a)) w := by kernel_rfl
theorem ccVendorQualifier (args : Array Value) (w : World) : (callFunc 117 args).run Try.prog w = .ok (.enter 117 args) w := by kernel_rfl
theorem ntVendorQualifier : NodeT 79 117 := meth_of 81 2 Try.underlying79 (by kernel_rfl) (by kernel_rfl) (by decide) mtVendorQualifier ccVendorQualifier

theorem iaVendorQualifier (p : Value) (w : World) : (Instr.typeAssert (.iface 79 p) 49 173 true).run Try.prog w = .ok (.tuple #[.iface 79 p, .bool true]) w := by kernel_rfl
theorem ibVendorQualifier (p : Value) (w : World) : (Instr.typeAssert (.iface 79 p) 49 173 false).run Try.prog w = .ok (.iface 79 p) w := by kernel_rfl
theorem imVendorQualifier (a : Addr) (w : World) : (method 304 79 (.pointer (some a)) "loop.example/pub-g01448/pub/demangle.printInner").run Try.prog w = .ok (118, .pointer (some a)) w := by kernel_rfl
theorem icVendorQualifier (args : Array Value) (w : World) : (callFunc 118 args).run Try.prog w = .ok (.enter 118 args) w := by kernel_rfl
theorem inVendorQualifier : InnerT 79 118 := ⟨iaVendorQualifier, ibVendorQualifier, imVendorQualifier, icVendorQualifier⟩

def complexW : ByteArray := ⟨#[32, 95, 67, 111, 109, 112, 108, 101, 120]⟩
def imaginaryW : ByteArray := ⟨#[32, 95, 73, 109, 97, 103, 105, 110, 97, 114, 121]⟩
def vectorW : ByteArray := ⟨#[32, 95, 95, 118, 101, 99, 116, 111, 114, 40]⟩
def parenW : ByteArray := ⟨#[41]⟩
def blankW : ByteArray := ⟨#[32]⟩

set_option maxHeartbeats 1000000 in
theorem innerComplexType (A b : Nat) (w : World) (σ : PS) (inner pr : List Value) (h : PX A w σ inner pr) (hl : σ.out.length + 100 ≤ 140737488355328) :
    Calls Try.prog 184 #[.pointer (some ⟨b, 0, none⟩), .pointer (some ⟨A, 0, none⟩)] w fun e w' => e = .returned (.tuple #[]) ∧ PX A w' (σ.text complexW.data.toList) inner pr ∧ Below A w w' := by
  go_enter Try.func184, Try.ntmps184
  go_wp2_with fail
  change Calls Try.prog 63 #[.pointer (some ⟨A, 0, none⟩), .string complexW] w _
  refine (writeStringX A w σ inner pr complexW h (by rw [show complexW.size = 9 from rfl]; omega)).mono ?_
  rintro e w1 ⟨rfl, hp, hb⟩
  go_wp2_with fail
  go_end0
  exact ⟨rfl, hp, hb⟩

set_option maxHeartbeats 1000000 in
theorem mComplexType_any (A b nb : Nat) (s : ByteArray) (w : World) (σ : PS) (h : PX A w σ [] []) (hv : σ.llvm = false) (he : El A w b #[.iface 100 (.pointer (some ⟨nb, 0, none⟩))] 73) (hn : El A w nb #[.string s] 101)
    (hl : σ.out.length + s.size + 100 ≤ 140737488355328) :
    Calls Try.prog 104 #[.pointer (some ⟨b, 0, none⟩), .pointer (some ⟨A, 0, none⟩)] w fun e w' => e = .returned (.tuple #[]) ∧ PX A w' ((σ.text s.data.toList).text complexW.data.toList) [] [] ∧ Below A w w' := by
  have c0 : w.cell? ⟨b, 0, none⟩ = some (.iface 100 (.pointer (some ⟨nb, 0, none⟩))) := he.cell 0
  go_enter Try.func104, Try.ntmps104
  go_wp2_with fail
  refine (printBase_keep A _ b _ _ w σ (σ.text s.data.toList) ((σ.text s.data.toList).text complexW.data.toList) [] [] h inComplexType (by simp)
    (fun w1 h1 hb1 => print_builtinX A nb s w1 σ _ [] h1 hv (hn.keep hb1) Others.nil (by simp) (by omega))
    (fun w1 h1 hb1 => innerComplexType A b w1 _ _ [] h1 (by rw [PS.text_out, List.length_append, Array.length_toList]; show _ + s.size + _ ≤ _; omega))).mono ?_
  rintro e w1 ⟨rfl, hp, hb⟩
  go_wp2_with fail
  go_end0
  exact ⟨rfl, hp, hb⟩

set_option maxHeartbeats 1000000 in
theorem innerImaginaryType (A b : Nat) (w : World) (σ : PS) (inner pr : List Value) (h : PX A w σ inner pr) (hl : σ.out.length + 100 ≤ 140737488355328) :
    Calls Try.prog 109 #[.pointer (some ⟨b, 0, none⟩), .pointer (some ⟨A, 0, none⟩)] w fun e w' => e = .returned (.tuple #[]) ∧ PX A w' (σ.text imaginaryW.data.toList) inner pr ∧ Below A w w' := by
  go_enter Try.func109, Try.ntmps109
  go_wp2_with fail
  change Calls Try.prog 63 #[.pointer (some ⟨A, 0, none⟩), .string imaginaryW] w _
  refine (writeStringX A w σ inner pr imaginaryW h (by rw [show imaginaryW.size = 11 from rfl]; omega)).mono ?_
  rintro e w1 ⟨rfl, hp, hb⟩
  go_wp2_with fail
  go_end0
  exact ⟨rfl, hp, hb⟩

set_option maxHeartbeats 1000000 in
theorem mImaginaryType_any (A b nb : Nat) (s : ByteArray) (w : World) (σ : PS) (h : PX A w σ [] []) (hv : σ.llvm = false) (he : El A w b #[.iface 100 (.pointer (some ⟨nb, 0, none⟩))] 75) (hn : El A w nb #[.string s] 101)
    (hl : σ.out.length + s.size + 100 ≤ 140737488355328) :
    Calls Try.prog 108 #[.pointer (some ⟨b, 0, none⟩), .pointer (some ⟨A, 0, none⟩)] w fun e w' => e = .returned (.tuple #[]) ∧ PX A w' ((σ.text s.data.toList).text imaginaryW.data.toList) [] [] ∧ Below A w w' := by
  have c0 : w.cell? ⟨b, 0, none⟩ = some (.iface 100 (.pointer (some ⟨nb, 0, none⟩))) := he.cell 0
  go_enter Try.func108, Try.ntmps108
  go_wp2_with fail
  refine (printBase_keep A _ b _ _ w σ (σ.text s.data.toList) ((σ.text s.data.toList).text imaginaryW.data.toList) [] [] h inImaginaryType (by simp)
    (fun w1 h1 hb1 => print_builtinX A nb s w1 σ _ [] h1 hv (hn.keep hb1) Others.nil (by simp) (by omega))
    (fun w1 h1 hb1 => innerImaginaryType A b w1 _ _ [] h1 (by rw [PS.text_out, List.length_append, Array.length_toList]; show _ + s.size + _ ≤ _; omega))).mono ?_
  rintro e w1 ⟨rfl, hp, hb⟩
  go_wp2_with fail
  go_end0
  exact ⟨rfl, hp, hb⟩

set_option maxHeartbeats 1000000 in
theorem innerVectorType (A b db : Nat) (d : ByteArray) (w : World) (σ : PS) (inner : List Value) (h : PX A w σ inner []) (hv : σ.llvm = false) (v1 : Value) (he : El A w b #[.iface 97 (.pointer (some ⟨db, 0, none⟩)), v1] 78) (hd : El A w db #[.string d] 99)
    (hl : σ.out.length + d.size + 100 ≤ 140737488355328) :
    Calls Try.prog 113 #[.pointer (some ⟨b, 0, none⟩), .pointer (some ⟨A, 0, none⟩)] w fun e w' => e = .returned (.tuple #[]) ∧ PX A w' (((σ.text vectorW.data.toList).text d.data.toList).byte 41) inner [] ∧ Below A w w' := by
  have c2 := h.parts.2.2.1
  rw [hv] at c2
  go_enter Try.func113, Try.ntmps113
  go_wp2_with fail
  change Calls Try.prog 63 #[.pointer (some ⟨A, 0, none⟩), .string vectorW] w _
  refine (writeStringX A w σ inner [] vectorW h (by rw [show vectorW.size = 10 from rfl]; omega)).mono ?_
  rintro e w1 ⟨rfl, hp, hb⟩
  have c0 : w1.cell? ⟨b, 0, none⟩ = some (.iface 97 (.pointer (some ⟨db, 0, none⟩))) := (he.keep hb).cell 0
  go_wp2_with fail
  refine (print_nameX A db d w1 _ inner [] hp (hd.keep hb) Others.nil (by simp) (by rw [PS.text_out, List.length_append, show vectorW.data.toList.length = 10 from rfl]; omega)).mono ?_
  rintro e w2 ⟨rfl, hp2, hb2⟩
  go_wp2_with fail
  refine (writeByteX A w2 _ inner [] 41 41 rfl hp2 (by rw [PS.text_out, PS.text_out, List.length_append, List.length_append, show vectorW.data.toList.length = 10 from rfl, Array.length_toList]; show _ + d.size + _ ≤ _; omega)).mono ?_
  rintro e w3 ⟨rfl, hp3, hb3⟩
  go_wp2_with fail
  go_end0
  exact ⟨rfl, hp3, (hb.trans hb2).trans hb3⟩

set_option maxHeartbeats 1000000 in
theorem innerVendorQualifier (A b qb : Nat) (q : ByteArray) (w : World) (σ : PS) (inner : List Value) (h : PX A w σ inner []) (v1 : Value) (he : El A w b #[.iface 97 (.pointer (some ⟨qb, 0, none⟩)), v1] 81) (hd : El A w qb #[.string q] 99)
    (hl : σ.out.length + q.size + 100 ≤ 140737488355328) :
    Calls Try.prog 118 #[.pointer (some ⟨b, 0, none⟩), .pointer (some ⟨A, 0, none⟩)] w fun e w' => e = .returned (.tuple #[]) ∧ PX A w' ((σ.byte 32).text q.data.toList) inner [] ∧ Below A w w' := by
  go_enter Try.func118, Try.ntmps118
  go_wp2_with fail
  refine (writeByteX A w σ inner [] 32 32 rfl h (by omega)).mono ?_
  rintro e w1 ⟨rfl, hp, hb⟩
  have c0 : w1.cell? ⟨b, 0, none⟩ = some (.iface 97 (.pointer (some ⟨qb, 0, none⟩))) := (he.keep hb).cell 0
  go_wp2_with fail
  refine (print_nameX A qb q w1 _ inner [] hp (hd.keep hb) Others.nil (by simp) (by rw [PS.byte_out, List.length_append]; simp; omega)).mono ?_
  rintro e w2 ⟨rfl, hp2, hb2⟩
  go_wp2_with fail
  go_end0
  exact ⟨rfl, hp2, hb.trans hb2⟩

set_option maxRecDepth 100000 in
set_option maxHeartbeats 2000000 in
theorem mVectorType_any (A b db nb : Nat) (s d : ByteArray) (w : World) (σ : PS) (h : PX A w σ [] []) (hv : σ.llvm = false) (he : El A w b #[.iface 97 (.pointer (some ⟨db, 0, none⟩)), .iface 100 (.pointer (some ⟨nb, 0, none⟩))] 78)
    (hd : El A w db #[.string d] 99) (hn : El A w nb #[.string s] 101) (hl : σ.out.length + s.size + d.size + 100 ≤ 140737488355328) :
    Calls Try.prog 112 #[.pointer (some ⟨b, 0, none⟩), .pointer (some ⟨A, 0, none⟩)] w fun e w' => e = .returned (.tuple #[]) ∧ PX A w' ((((σ.text s.data.toList).text vectorW.data.toList).text d.data.toList).byte 41) [] [] ∧ Below A w w' := by
  obtain ⟨a, cap, hc, hown, hp, _⟩ := h.row
  have hA := hp.lt
  have f8 := hp.free 8
  obtain ⟨i0, hi0, hz0, hz1, hz2⟩ := info_parts Try.infoAst
  have HP := Lib.hid hp
  clear h hp
  go_enter Try.func112, Try.ntmps112
  go_wp2_with (at_builtin; refine wpList_append_srcB _ rfl _ _ 57 57 rfl (A + 1) 49 i0 .nilIface 1 16 Try.underlying57 hi0 hz0 hz1 hz2 rfl _ _ _ _ rfl rfl (hown.alloc _) 1 [.iface 76 (.pointer (some ⟨b, 0, none⟩))] (Src.ofSlice _ Try.underlying57 ⟨w.heap.size, 0, none⟩ 1 1 _ rfl (cell_one_new _ _ _) (by simp [Value.oneCell'])) ?c3 (by simp) (by simp; omega) ?_)
  case c3 => unfold maxLen; simp
  intro v1 w1 hown1 hg1 hn1
  have hg' : w.grownBy w1 (Value.slice a 0 cap).ownBlock := ⟨hg1.os, hg1.tape, hg1.output, by have := hg1.size; simp at this; omega, fun k hk hne => by rw [hg1.block k (by simp; omega) hne, Below.heap_alloc _ _ _ hk]⟩
  obtain ⟨⟨a1, n1, cap1, rfl⟩, k1, k2, k3, k4⟩ := PX.set (inner' := [.iface 76 (.pointer (some ⟨b, 0, none⟩))]) HP.out (by simpa using hown1) hg' (by
    rcases hn1 with h | ⟨g, h, hge⟩
    · exact .inl h
    · exact .inr ⟨g, h, by omega⟩)
  have K3 := Lib.hid k3
  have K4 := Lib.hid k4
  have c1 : (w1.setCell ⟨A, 8, none⟩ (.slice a1 n1 cap1)).cell? ⟨b, 1, none⟩ = some (.iface 100 (.pointer (some ⟨nb, 0, none⟩))) := (he.keep k4).cell 1
  clear hown hown1 hg1 hn1 hg' hc k3 k4 f8
  go_wp2_with fail
  refine (print_builtinX A nb s _ σ _ [] K3.out hv (hn.keep K4.out) Others.nil (by simp) (by omega)).mono ?_
  rintro e w2 ⟨rfl, hp2, hb2⟩
  obtain ⟨a2, cap2, hc2, hown2, hp2', hpos⟩ := hp2.row
  have hbw2 := K4.out.trans hb2
  have HP2 := Lib.hid hp2
  have hlen : ([Value.iface 76 (.pointer (some ⟨b, 0, none⟩))]).length = 1 := rfl
  rw [hlen] at hc2
  clear hb2 hp2 hp2' hown2 hpos hlen k1 k2 c1
  go_wp2_with fail
  refine (printOne_any A _ b _ w2 (σ.text s.data.toList) ((((σ.text s.data.toList).text vectorW.data.toList).text d.data.toList).byte 41) [] [] [] HP2.out inVectorType (by simp) (fun w1 h1 hb1 => innerVectorType A b db d w1 _ [] h1 hv _ ((he.keep hbw2).keep hb1) ((hd.keep hbw2).keep hb1) (by rw [PS.text_out, List.length_append, Array.length_toList]; show _ + s.size + _ + _ ≤ _; omega))).mono ?_
  rintro e w3 ⟨rfl, hp3, hb3⟩
  go_wp2_with fail
  go_end0
  exact ⟨rfl, hp3, hbw2.trans hb3⟩

set_option maxRecDepth 100000 in
set_option maxHeartbeats 2000000 in
theorem mVendorQualifier_any (A b db nb : Nat) (s d : ByteArray) (w : World) (σ : PS) (h : PX A w σ [] []) (hv : σ.llvm = false) (he : El A w b #[.iface 97 (.pointer (some ⟨db, 0, none⟩)), .iface 100 (.pointer (some ⟨nb, 0, none⟩))] 81)
    (hd : El A w db #[.string d] 99) (hn : El A w nb #[.string s] 101) (hl : σ.out.length + s.size + d.size + 100 ≤ 140737488355328) :
    Calls Try.prog 117 #[.pointer (some ⟨b, 0, none⟩), .pointer (some ⟨A, 0, none⟩)] w fun e w' => e = .returned (.tuple #[]) ∧ PX A w' (((σ.text s.data.toList).byte 32).text d.data.toList) [] [] ∧ Below A w w' := by
  have c2 := h.parts.2.2.1
  rw [hv] at c2
  obtain ⟨a, cap, hc, hown, hp, _⟩ := h.row
  have hA := hp.lt
  have f8 := hp.free 8
  obtain ⟨i0, hi0, hz0, hz1, hz2⟩ := info_parts Try.infoAst
  have HP := Lib.hid hp
  clear h hp
  go_enter Try.func117, Try.ntmps117
  go_wp2_with (at_builtin; refine wpList_append_srcB _ rfl _ _ 57 57 rfl (A + 1) 49 i0 .nilIface 1 16 Try.underlying57 hi0 hz0 hz1 hz2 rfl _ _ _ _ rfl rfl (hown.alloc _) 1 [.iface 79 (.pointer (some ⟨b, 0, none⟩))] (Src.ofSlice _ Try.underlying57 ⟨w.heap.size, 0, none⟩ 1 1 _ rfl (cell_one_new _ _ _) (by simp [Value.oneCell'])) ?c3 (by simp) (by simp; omega) ?_)
  case c3 => unfold maxLen; simp
  intro v1 w1 hown1 hg1 hn1
  have hg' : w.grownBy w1 (Value.slice a 0 cap).ownBlock := ⟨hg1.os, hg1.tape, hg1.output, by have := hg1.size; simp at this; omega, fun k hk hne => by rw [hg1.block k (by simp; omega) hne, Below.heap_alloc _ _ _ hk]⟩
  obtain ⟨⟨a1, n1, cap1, rfl⟩, k1, k2, k3, k4⟩ := PX.set (inner' := [.iface 79 (.pointer (some ⟨b, 0, none⟩))]) HP.out (by simpa using hown1) hg' (by
    rcases hn1 with h | ⟨g, h, hge⟩
    · exact .inl h
    · exact .inr ⟨g, h, by omega⟩)
  have K3 := Lib.hid k3
  have K4 := Lib.hid k4
  have c1 : (w1.setCell ⟨A, 8, none⟩ (.slice a1 n1 cap1)).cell? ⟨b, 1, none⟩ = some (.iface 100 (.pointer (some ⟨nb, 0, none⟩))) := (he.keep k4).cell 1
  clear hown hown1 hg1 hn1 hg' hc k3 k4 f8
  go_wp2_with fail
  refine (print_builtinX A nb s _ σ _ [] K3.out hv (hn.keep K4.out) Others.nil (by simp) (by omega)).mono ?_
  rintro e w2 ⟨rfl, hp2, hb2⟩
  obtain ⟨a2, cap2, hc2, hown2, hp2', hpos⟩ := hp2.row
  have hbw2 := K4.out.trans hb2
  have HP2 := Lib.hid hp2
  have hlen : ([Value.iface 79 (.pointer (some ⟨b, 0, none⟩))]).length = 1 := rfl
  rw [hlen] at hc2
  clear hb2 hp2 hp2' hown2 hpos hlen k1 k2 c1
  go_wp2_with fail
  refine (printOne_any A _ b _ w2 (σ.text s.data.toList) (((σ.text s.data.toList).byte 32).text d.data.toList) [] [] [] HP2.out inVendorQualifier (by simp) (fun w1 h1 hb1 => innerVendorQualifier A b db d w1 _ [] h1 _ ((he.keep hbw2).keep hb1) ((hd.keep hbw2).keep hb1) (by rw [PS.text_out, List.length_append, Array.length_toList]; show _ + s.size + _ + _ ≤ _; omega))).mono ?_
  rintro e w3 ⟨rfl, hp3, hb3⟩
  go_wp2_with fail
  go_end0
  exact ⟨rfl, hp3, hbw2.trans hb3⟩

end Go.Proofs.Ytjemnnfnocmjlaa

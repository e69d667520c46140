/-
  Pointers and references to a function: what they are printed to.
-/
import Derived.Test.YtjemnnfnocmjlaaGreatTP
import Derived.Test.YtjemnnfnocmjlaaGreatTF
namespace Go.Proofs.YtjemnnfnocmjlaaGreat
open Go.RowKit

def starW : ByteArray := ⟨#[42]⟩
def ampW : ByteArray := ⟨#[38]⟩

theorem mtPointerType (a : Addr) (w : World) : (method 264 45 (.pointer (some a)) "loop.example/pub-g01448/pub/demangle.print").run Tryz.prog w = .ok (58, .pointer (some a)) w := by kernel_rfl
theorem ccPointerType (args : Array Value) (w : World) : (callFunc 58 args).run Tryz.prog w = .ok (.enter 58 args) w := by kernel_rfl
theorem ntPointerType : NodeT 45 58 := meth_of 47 1 Tryz.underlying45 (by kernel_rfl) (by kernel_rfl) (by decide) mtPointerType ccPointerType
theorem iaPointerType (p : Value) (w : World) : (Instr.typeAssert (.iface 45 p) 36 118 true).run Tryz.prog w = .ok (.tuple #[.iface 45 p, .bool true]) w := by kernel_rfl
theorem ibPointerType (p : Value) (w : World) : (Instr.typeAssert (.iface 45 p) 36 118 false).run Tryz.prog w = .ok (.iface 45 p) w := by kernel_rfl
theorem imPointerType (a : Addr) (w : World) : (method 264 45 (.pointer (some a)) "loop.example/pub-g01448/pub/demangle.printInner").run Tryz.prog w = .ok (59, .pointer (some a)) w := by kernel_rfl
theorem icPointerType (args : Array Value) (w : World) : (callFunc 59 args).run Tryz.prog w = .ok (.enter 59 args) w := by kernel_rfl
theorem inPointerType : InnerT 45 59 := ⟨iaPointerType, ibPointerType, imPointerType, icPointerType⟩
theorem mtReferenceType (a : Addr) (w : World) : (method 264 48 (.pointer (some a)) "loop.example/pub-g01448/pub/demangle.print").run Tryz.prog w = .ok (63, .pointer (some a)) w := by kernel_rfl
theorem ccReferenceType (args : Array Value) (w : World) : (callFunc 63 args).run Tryz.prog w = .ok (.enter 63 args) w := by kernel_rfl
theorem ntReferenceType : NodeT 48 63 := meth_of 49 1 Tryz.underlying48 (by kernel_rfl) (by kernel_rfl) (by decide) mtReferenceType ccReferenceType
theorem iaReferenceType (p : Value) (w : World) : (Instr.typeAssert (.iface 48 p) 36 118 true).run Tryz.prog w = .ok (.tuple #[.iface 48 p, .bool true]) w := by kernel_rfl
theorem ibReferenceType (p : Value) (w : World) : (Instr.typeAssert (.iface 48 p) 36 118 false).run Tryz.prog w = .ok (.iface 48 p) w := by kernel_rfl
theorem imReferenceType (a : Addr) (w : World) : (method 264 48 (.pointer (some a)) "loop.example/pub-g01448/pub/demangle.printInner").run Tryz.prog w = .ok (64, .pointer (some a)) w := by kernel_rfl
theorem icReferenceType (args : Array Value) (w : World) : (callFunc 64 args).run Tryz.prog w = .ok (.enter 64 args) w := by kernel_rfl
theorem inReferenceType : InnerT 48 64 := ⟨iaReferenceType, ibReferenceType, imReferenceType, icReferenceType⟩

set_option maxRecDepth 100000 in
set_option maxHeartbeats 2000000 in
theorem printBase_gone (A T b : Nat) (base : Value) (w : World) (σ σ1 : PS) (inner pr : List Value) (h : PX A w σ inner pr) (hl : inner.length ≤ 100000)
    (hbase : ∀ w1, PX A w1 σ (inner ++ [.iface T (.pointer (some ⟨b, 0, none⟩))]) pr → Below A w w1 →
      Calls Tryz.prog 39 #[.pointer (some ⟨A, 0, none⟩), base] w1 fun e w2 => e = .returned (.tuple #[]) ∧ PX A w2 σ1 [] pr ∧ Below A w1 w2) :
    Calls Tryz.prog 60 #[.pointer (some ⟨A, 0, none⟩), .iface T (.pointer (some ⟨b, 0, none⟩)), base] w fun e w' => e = .returned (.tuple #[]) ∧ PX A w' σ1 [] pr ∧ Below A w w' := by
  obtain ⟨a, cap, hc, hown, hp, _⟩ := h.row
  have hA := hp.lt
  have f8 := hp.free 8
  obtain ⟨i0, hi0, hz0, hz1, hz2⟩ := info_parts Tryz.infoAst
  have HP := Lib.hid hp
  have HB := Lib.hid hbase
  clear h hp hbase
  go_enter Tryz.func60, Tryz.ntmps60
  go_wp2_with (at_builtin; refine wpList_append_srcB _ rfl _ _ 42 42 rfl (A + 1) 36 i0 .nilIface 1 16 Tryz.underlying42 hi0 hz0 hz1 hz2 rfl _ _ _ _ rfl rfl (hown.alloc _) 1 [.iface T (.pointer (some ⟨b, 0, none⟩))] (Src.ofSlice _ Tryz.underlying42 ⟨w.heap.size, 0, none⟩ 1 1 _ rfl (cell_one_new _ _ _) (by simp [Value.oneCell'])) ?c3 (by omega) (by simp; omega) ?_)
  case c3 => unfold maxLen; omega
  intro v1 w1 hown1 hg1 hn1
  have hg' : w.grownBy w1 (Value.slice a inner.length cap).ownBlock := ⟨hg1.os, hg1.tape, hg1.output, by have := hg1.size; simp at this; omega, fun k hk hne => by rw [hg1.block k (by simp; omega) hne, Below.heap_alloc _ _ _ hk]⟩
  obtain ⟨⟨a1, n1, cap1, rfl⟩, k1, k2, k3, k4⟩ := PX.set (inner' := inner ++ [.iface T (.pointer (some ⟨b, 0, none⟩))]) HP.out (by simpa using hown1) hg' (by
    rcases hn1 with h | ⟨g, h, hge⟩
    · exact .inl h
    · exact .inr ⟨g, h, by omega⟩)
  have K3 := Lib.hid k3
  have K4 := Lib.hid k4
  clear hown hown1 hg1 hn1 hg' hc k3 k4 f8
  go_wp2_with fail
  refine (HB.out _ K3.out K4.out).mono ?_
  rintro e w2 ⟨rfl, hp2, hb2⟩
  obtain ⟨a2, cap2, hc2, _⟩ := hp2.row
  have hc2 : w2.cell? ⟨A, 8, none⟩ = some (.slice a2 0 cap2) := hc2
  have hbw2 := K4.out.trans hb2
  have HP2 := Lib.hid hp2
  clear hp2 hb2
  go_wp2_with fail
  go_end0
  exact ⟨rfl, HP2.out, hbw2⟩

set_option maxHeartbeats 1000000 in
theorem innerPointerType (A b : Nat) (w : World) (σ : PS) (inner pr : List Value) (h : PX A w σ inner pr) (hl : σ.out.length + 1 ≤ 140737488355328) :
    Calls Tryz.prog 59 #[.pointer (some ⟨b, 0, none⟩), .pointer (some ⟨A, 0, none⟩)] w fun e w' => e = .returned (.tuple #[]) ∧ PX A w' (σ.text starW.data.toList) inner pr ∧ Below A w w' := by
  go_enter Tryz.func59, Tryz.ntmps59
  go_wp2_with fail
  change Calls Tryz.prog 53 #[.pointer (some ⟨A, 0, none⟩), .string starW] w _
  refine (writeStringX A w σ inner pr starW h (by rw [show starW.size = 1 from rfl]; omega)).mono ?_
  rintro e w1 ⟨rfl, hp, hb⟩
  go_wp2_with fail
  go_end0
  exact ⟨rfl, hp, hb⟩

set_option maxHeartbeats 1000000 in
theorem innerReferenceType (A b : Nat) (w : World) (σ : PS) (inner pr : List Value) (h : PX A w σ inner pr) (hl : σ.out.length + 1 ≤ 140737488355328) :
    Calls Tryz.prog 64 #[.pointer (some ⟨b, 0, none⟩), .pointer (some ⟨A, 0, none⟩)] w fun e w' => e = .returned (.tuple #[]) ∧ PX A w' (σ.text ampW.data.toList) inner pr ∧ Below A w w' := by
  go_enter Tryz.func64, Tryz.ntmps64
  go_wp2_with fail
  change Calls Tryz.prog 53 #[.pointer (some ⟨A, 0, none⟩), .string ampW] w _
  refine (writeStringX A w σ inner pr ampW h (by rw [show ampW.size = 1 from rfl]; omega)).mono ?_
  rintro e w1 ⟨rfl, hp, hb⟩
  go_wp2_with fail
  go_end0
  exact ⟨rfl, hp, hb⟩

set_option maxHeartbeats 1000000 in
theorem gonePointerType (A b : Nat) (base : Value) (w : World) (σ σ1 : PS) (inner pr : List Value) (h : PX A w σ inner pr) (he : El A w b #[base] 47) (hl : inner.length ≤ 100000)
    (hbase : ∀ w1, PX A w1 σ (inner ++ [.iface 45 (.pointer (some ⟨b, 0, none⟩))]) pr → Below A w w1 →
      Calls Tryz.prog 39 #[.pointer (some ⟨A, 0, none⟩), base] w1 fun e w2 => e = .returned (.tuple #[]) ∧ PX A w2 σ1 [] pr ∧ Below A w1 w2) :
    Calls Tryz.prog 58 #[.pointer (some ⟨b, 0, none⟩), .pointer (some ⟨A, 0, none⟩)] w fun e w' => e = .returned (.tuple #[]) ∧ PX A w' σ1 [] pr ∧ Below A w w' := by
  have c0 : w.cell? ⟨b, 0, none⟩ = some base := he.cell 0
  have HB := Lib.hid hbase
  clear hbase
  go_enter Tryz.func58, Tryz.ntmps58
  go_wp2_with fail
  refine (printBase_gone A _ b _ w σ σ1 inner pr h hl HB.out).mono ?_
  rintro e w1 ⟨rfl, hp, hb⟩
  go_wp2_with fail
  go_end0
  exact ⟨rfl, hp, hb⟩

set_option maxHeartbeats 1000000 in
theorem goneReferenceType (A b : Nat) (base : Value) (w : World) (σ σ1 : PS) (inner pr : List Value) (h : PX A w σ inner pr) (he : El A w b #[base] 49) (hl : inner.length ≤ 100000)
    (hbase : ∀ w1, PX A w1 σ (inner ++ [.iface 48 (.pointer (some ⟨b, 0, none⟩))]) pr → Below A w w1 →
      Calls Tryz.prog 39 #[.pointer (some ⟨A, 0, none⟩), base] w1 fun e w2 => e = .returned (.tuple #[]) ∧ PX A w2 σ1 [] pr ∧ Below A w1 w2) :
    Calls Tryz.prog 63 #[.pointer (some ⟨b, 0, none⟩), .pointer (some ⟨A, 0, none⟩)] w fun e w' => e = .returned (.tuple #[]) ∧ PX A w' σ1 [] pr ∧ Below A w w' := by
  have c0 : w.cell? ⟨b, 0, none⟩ = some base := he.cell 0
  have HB := Lib.hid hbase
  clear hbase
  go_enter Tryz.func63, Tryz.ntmps63
  go_wp2_with fail
  refine (printBase_gone A _ b _ w σ σ1 inner pr h hl HB.out).mono ?_
  rintro e w1 ⟨rfl, hp, hb⟩
  go_wp2_with fail
  go_end0
  exact ⟨rfl, hp, hb⟩

/-- The state behind the stars (or the one ampersand) within the parentheses. -/
def markSt (W : ByteArray) (σ : PS) : Nat → PS
  | 0 => (σ.scope (σ.scopes + 1)).byte 40
  | j + 1 => (markSt W σ j).text W.data.toList

/-- .. and behind the closing one. -/
def markEnd (W : ByteArray) (σ : PS) (m : Nat) : PS := ((markSt W σ m).scope σ.scopes).byte 41

theorem markSt_scopes (W : ByteArray) (σ : PS) (j : Nat) : (markSt W σ j).scopes = σ.scopes + 1 := by
  induction j with
  | zero => rfl
  | succ j ih => exact ih

theorem markSt_keptIs (W : ByteArray) (σ : PS) (j : Nat) : (markSt W σ j).kept = σ.kept := by
  induction j with
  | zero => rfl
  | succ j ih => exact ih

theorem markSt_ep (W : ByteArray) (σ : PS) (j : Nat) : (markSt W σ j).ep = σ.ep := by
  induction j with
  | zero => rfl
  | succ j ih => exact ih

theorem markSt_len (W : ByteArray) (σ : PS) (j : Nat) : (markSt W σ j).out.length = σ.out.length + 1 + j * W.size := by
  induction j with
  | zero => show (σ.out ++ [40]).length = _; simp
  | succ j ih =>
    have : W.data.toList.length = W.size := Array.length_toList
    rw [markSt, PS.text_out, List.length_append, ih, this, Nat.add_mul]
    omega

/-- A function type with the texts that it bears. -/
structure FtAt (A : Nat) (w : World) (b bR : Nat) (v : Value) (back : ByteArray) (ss : List ByteArray) (bfn : Nat → Nat) : Prop where
  el : El A w b #[.iface 67 (.pointer (some ⟨bR, 0, none⟩)), v, .bool false] 44
  ret : El A w bR #[.string back] 68
  row : NRow A w v ss bfn
  lt : ∀ k, k < ss.length → bfn k < b
  ltR : bR < b

theorem FtAt.keep {A b bR : Nat} {w w' : World} {v : Value} {back : ByteArray} {ss : List ByteArray} {bfn : Nat → Nat} (h : FtAt A w b bR v back ss bfn) (hb : Below A w w') : FtAt A w' b bR v back ss bfn :=
  ⟨h.el.keep hb, h.ret.keep hb, h.row.grow (Nat.le_refl _) hb, h.lt, h.ltR⟩

/-- The function type within what points to it, by printState.print. -/
theorem ft_in_PointerType (A b bR m : Nat) (bf : Nat → Nat) (v : Value) (back : ByteArray) (ss : List ByteArray) (bfn : Nat → Nat) (w : World) (σ : PS) (pr : List Value) (h : PX A w σ (insL (fun _ => 45) bf (m + 1)) pr) (hf : FtAt A w b bR v back ss bfn) (ha : Above A w b pr)
    (hm : m ≤ 1000) (hl : pr.length ≤ 50000) (hss : ss.length ≤ 1000) (hep : σ.ep = true) (hv : σ.llvm = false) (hs0 : 0 ≤ σ.scopes) (hs1 : σ.scopes ≤ 500) (hz : σ.out.length + back.size + (joinN ss ss.length).size + 5000 ≤ 140737488355328) :
    Calls Tryz.prog 39 #[.pointer (some ⟨A, 0, none⟩), .iface 38 (.pointer (some ⟨b, 0, none⟩))] w fun e w' => e = .returned (.tuple #[]) ∧ PX A w' (argSt (markEnd starW ((σ.text back.data.toList).byte 32) (m + 1)) ss) [] pr ∧ Below A w w' := by
  have hback : back.data.toList.length = back.size := Array.length_toList
  have hW : starW.size = 1 := rfl
  have hlen : ((σ.text back.data.toList).byte 32).out.length = σ.out.length + back.size + 1 := by rw [PS.byte_out, PS.text_out, List.length_append, List.length_append, hback]; rfl
  refine print_anyX A _ b _ w σ _ (insL (fun _ => 45) bf (m + 1)) [] pr h ntFunctionType hf.el.node ha.others (by omega) fun w1 h1 hb1 => ?_
  have hoth : ∀ (c : Nat) (wx : World), c < b → Below A w wx → Others A wx c (pr ++ [.iface 38 (.pointer (some ⟨b, 0, none⟩))]) := fun c wx hc hx => ((ha.keep hx).snoc (T := 38) (hf.el.keep hx).node hc).others
  have hpl : (pr ++ [Value.iface 38 (.pointer (some ⟨b, 0, none⟩))]).length ≤ 100000 := by simp; omega
  refine ft_ret A b _ _ v w1 σ (σ.text back.data.toList) _ _ _ h1 (hf.el.keep hb1) (by rw [insL_len]; omega) (by rw [PS.text_out, List.length_append, hback]; omega) (fun w2 h2 hb2 => ?_) (fun w2 h2 hb2 => ?_)
  · have hbb := hb1.trans hb2
    exact print_builtinX A bR back w2 σ _ _ h2 hv (hf.ret.keep hbb) (hoth _ _ hf.ltR hbb) hpl (by omega)
  · have hbb := hb1.trans hb2
    have hml := markSt_len starW ((σ.text back.data.toList).byte 32) (m + 1)
    rw [hW, hlen] at hml
    have hel : (markEnd starW ((σ.text back.data.toList).byte 32) (m + 1)).out.length = (markSt starW ((σ.text back.data.toList).byte 32) (m + 1)).out.length + 1 := by
      show ((markSt starW ((σ.text back.data.toList).byte 32) (m + 1)).out ++ [41]).length = _
      simp
    refine args_PointerType A b m (fun _ => 45) (fun _ => 59) bf (markSt starW ((σ.text back.data.toList).byte 32)) _ v false ((σ.text back.data.toList).byte 32) (markEnd starW ((σ.text back.data.toList).byte 32) (m + 1)) _ ss bfn w2 h2 (hf.el.keep hbb) (hf.row.grow (Nat.le_refl _) hbb) (fun k hk => hoth _ _ (hf.lt k hk) hbb) hpl (by omega)
      rfl (by omega) rfl hs0 (by show σ.scopes ≤ _; omega) (by omega) rfl (fun _ _ => inPointerType) (fun _ _ p w => by kernel_rfl) (fun K j i hji w3 h3 hb3 => ?_) (markSt_keptIs _ _ _) (by rw [markSt_scopes]; show -1000 ≤ σ.scopes + 1; omega) (by rw [markSt_scopes]; show σ.scopes + 1 ≤ _; omega) (by omega)
      (by rw [markSt_scopes, Int.add_sub_cancel]; rfl) (by show (markSt starW ((σ.text back.data.toList).byte 32) (m + 1)).ep = true; rw [markSt_ep]; exact hep) hs0 (by show σ.scopes ≤ _; omega) (by omega)
    have hmj := markSt_len starW ((σ.text back.data.toList).byte 32) j
    rw [hW, hlen] at hmj
    exact innerPointerType A (bf i) w3 { markSt starW ((σ.text back.data.toList).byte 32) j with kept := K } _ _ h3 (by show (markSt starW ((σ.text back.data.toList).byte 32) j).out.length + 1 ≤ _; omega)

/-- The function type within what points to it, by printState.print. -/
theorem ft_in_ReferenceType (A b bR m : Nat) (bf : Nat → Nat) (v : Value) (back : ByteArray) (ss : List ByteArray) (bfn : Nat → Nat) (w : World) (σ : PS) (pr : List Value) (h : PX A w σ (insL (fun _ => 48) bf (m + 1)) pr) (hf : FtAt A w b bR v back ss bfn) (ha : Above A w b pr)
    (hm : m ≤ 1000) (hl : pr.length ≤ 50000) (hss : ss.length ≤ 1000) (hep : σ.ep = true) (hv : σ.llvm = false) (hs0 : 0 ≤ σ.scopes) (hs1 : σ.scopes ≤ 500) (hz : σ.out.length + back.size + (joinN ss ss.length).size + 5000 ≤ 140737488355328) :
    Calls Tryz.prog 39 #[.pointer (some ⟨A, 0, none⟩), .iface 38 (.pointer (some ⟨b, 0, none⟩))] w fun e w' => e = .returned (.tuple #[]) ∧ PX A w' (argSt (markEnd ampW ((σ.text back.data.toList).byte 32) (m + 1)) ss) [] pr ∧ Below A w w' := by
  have hback : back.data.toList.length = back.size := Array.length_toList
  have hW : ampW.size = 1 := rfl
  have hlen : ((σ.text back.data.toList).byte 32).out.length = σ.out.length + back.size + 1 := by rw [PS.byte_out, PS.text_out, List.length_append, List.length_append, hback]; rfl
  refine print_anyX A _ b _ w σ _ (insL (fun _ => 48) bf (m + 1)) [] pr h ntFunctionType hf.el.node ha.others (by omega) fun w1 h1 hb1 => ?_
  have hoth : ∀ (c : Nat) (wx : World), c < b → Below A w wx → Others A wx c (pr ++ [.iface 38 (.pointer (some ⟨b, 0, none⟩))]) := fun c wx hc hx => ((ha.keep hx).snoc (T := 38) (hf.el.keep hx).node hc).others
  have hpl : (pr ++ [Value.iface 38 (.pointer (some ⟨b, 0, none⟩))]).length ≤ 100000 := by simp; omega
  refine ft_ret A b _ _ v w1 σ (σ.text back.data.toList) _ _ _ h1 (hf.el.keep hb1) (by rw [insL_len]; omega) (by rw [PS.text_out, List.length_append, hback]; omega) (fun w2 h2 hb2 => ?_) (fun w2 h2 hb2 => ?_)
  · have hbb := hb1.trans hb2
    exact print_builtinX A bR back w2 σ _ _ h2 hv (hf.ret.keep hbb) (hoth _ _ hf.ltR hbb) hpl (by omega)
  · have hbb := hb1.trans hb2
    have hml := markSt_len ampW ((σ.text back.data.toList).byte 32) (m + 1)
    rw [hW, hlen] at hml
    have hel : (markEnd ampW ((σ.text back.data.toList).byte 32) (m + 1)).out.length = (markSt ampW ((σ.text back.data.toList).byte 32) (m + 1)).out.length + 1 := by
      show ((markSt ampW ((σ.text back.data.toList).byte 32) (m + 1)).out ++ [41]).length = _
      simp
    refine args_ReferenceType A b m (fun _ => 48) (fun _ => 64) bf (markSt ampW ((σ.text back.data.toList).byte 32)) _ v false ((σ.text back.data.toList).byte 32) (markEnd ampW ((σ.text back.data.toList).byte 32) (m + 1)) _ ss bfn w2 h2 (hf.el.keep hbb) (hf.row.grow (Nat.le_refl _) hbb) (fun k hk => hoth _ _ (hf.lt k hk) hbb) hpl (by omega)
      rfl (by omega) rfl hs0 (by show σ.scopes ≤ _; omega) (by omega) rfl (fun _ _ => inReferenceType) (fun _ _ p w => by kernel_rfl) (fun K j i hji w3 h3 hb3 => ?_) (markSt_keptIs _ _ _) (by rw [markSt_scopes]; show -1000 ≤ σ.scopes + 1; omega) (by rw [markSt_scopes]; show σ.scopes + 1 ≤ _; omega) (by omega)
      (by rw [markSt_scopes, Int.add_sub_cancel]; rfl) (by show (markSt ampW ((σ.text back.data.toList).byte 32) (m + 1)).ep = true; rw [markSt_ep]; exact hep) hs0 (by show σ.scopes ≤ _; omega) (by omega)
    have hmj := markSt_len ampW ((σ.text back.data.toList).byte 32) j
    rw [hW, hlen] at hmj
    exact innerReferenceType A (bf i) w3 { markSt ampW ((σ.text back.data.toList).byte 32) j with kept := K } _ _ h3 (by show (markSt ampW ((σ.text back.data.toList).byte 32) j).out.length + 1 ≤ _; omega)

end Go.Proofs.YtjemnnfnocmjlaaGreat

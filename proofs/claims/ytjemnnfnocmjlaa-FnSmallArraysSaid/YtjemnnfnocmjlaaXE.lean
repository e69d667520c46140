/-
  Chains of elements: pointers to a builtin type; a name in scopes: what they are printed to.
-/
import Derived.Test.YtjemnnfnocmjlaaXD
namespace Go.Proofs.Ytjemnnfnocmjlaa
open Go.RowKit

/-- What is being printed lies in blocks above b. -/
def Above (A : Nat) (w : World) (b : Nat) (pr : List Value) : Prop :=
  ∀ u ∈ pr, ∃ T' b', u = .iface T' (.pointer (some ⟨b', 0, none⟩)) ∧ NodeAt A w b' ∧ b < b'

theorem Above.others {A b : Nat} {w : World} {pr : List Value} (h : Above A w b pr) : Others A w b pr := fun u hu => by
  obtain ⟨T', b', e, hn, hb⟩ := h u hu
  exact ⟨T', b', e, hn, by omega⟩

theorem Above.keep {A b : Nat} {w w' : World} {pr : List Value} (h : Above A w b pr) (hb : Below A w w') : Above A w' b pr := fun u hu => by
  obtain ⟨T', b', e, hn, hlt⟩ := h u hu
  exact ⟨T', b', e, hn.keep hb, hlt⟩

theorem Above.snoc {A b b' T : Nat} {w : World} {pr : List Value} (h : Above A w b pr) (hn : NodeAt A w b) (hlt : b' < b) : Above A w b' (pr ++ [.iface T (.pointer (some ⟨b, 0, none⟩))]) := fun u hu => by
  rcases List.mem_append.1 hu with hu | hu
  · obtain ⟨T', b1, e, hn1, hlt1⟩ := h u hu
    exact ⟨T', b1, e, hn1, by omega⟩
  · simp at hu
    exact ⟨T, b, hu, hn, hlt⟩

theorem Above.nil {A b : Nat} {w : World} : Above A w b [] := fun u hu => by simp at hu

/-- printState.print with inner types. -/
theorem print_anyX (A T b f : Nat) (w : World) (σ σ1 : PS) (inner inner1 pr : List Value) (h : PX A w σ inner pr) (ht : NodeT T f) (hn : NodeAt A w b) (ho : Others A w b pr) (hl : pr.length ≤ 100000)
    (ih : ∀ w1, PX A w1 σ inner (pr ++ [.iface T (.pointer (some ⟨b, 0, none⟩))]) → Below A w w1 →
      Calls Try.prog f #[.pointer (some ⟨b, 0, none⟩), .pointer (some ⟨A, 0, none⟩)] w1 fun e w2 => e = .returned (.tuple #[]) ∧ PX A w2 σ1 inner1 (pr ++ [.iface T (.pointer (some ⟨b, 0, none⟩))]) ∧ Below A w1 w2) :
    Calls Try.prog 60 #[.pointer (some ⟨A, 0, none⟩), .iface T (.pointer (some ⟨b, 0, none⟩))] w fun e w' => e = .returned (.tuple #[]) ∧ PX A w' σ1 inner1 pr ∧ Below A w w' := by
  obtain ⟨iv, h⟩ := h
  refine (print_anyR A T b f w _ (fun x => ∃ iv', x = { σ1 with iv := iv', inner := inner1 }) pr h ht hn ho hl fun w1 h1 hb1 => (ih w1 ⟨iv, h1⟩ hb1).mono fun _ _ ⟨h2, ⟨iv', h3⟩, h4⟩ => ⟨h2, ⟨_, ⟨iv', rfl⟩, h3⟩, h4⟩).mono ?_
  rintro e w' ⟨h2, ⟨_, ⟨iv', rfl⟩, h5⟩, h4⟩
  exact ⟨h2, ⟨iv', h5⟩, h4⟩

/-- n pointers to the builtin type s: the type and the block of the outer one. -/
def Ptrs (A : Nat) (w : World) (s : ByteArray) : Nat → TypeId → FuncId → Nat → Prop
  | 0, T, f, b => (T = 100 ∧ f = 128) ∧ El A w b #[.string s] 101
  | n + 1, T, f, b => (T = 108 ∧ f = 140) ∧ ∃ T' f' b', b' < b ∧ El A w b #[.iface T' (.pointer (some ⟨b', 0, none⟩))] 109 ∧ Ptrs A w s n T' f' b'

theorem Ptrs.keep {A : Nat} {w w' : World} {s : ByteArray} {n T f b : Nat} (h : Ptrs A w s n T f b) (hb : Below A w w') : Ptrs A w' s n T f b := by
  induction n generalizing T f b with
  | zero => exact ⟨h.1, h.2.keep hb⟩
  | succ n ih =>
    obtain ⟨h1, T', f', b', hlt, he, hc⟩ := h
    exact ⟨h1, T', f', b', hlt, he.keep hb, ih hc⟩

def starW : ByteArray := ⟨#[42]⟩

/-- The state behind n stars. -/
def stars (σ : PS) : Nat → PS
  | 0 => σ
  | n + 1 => (stars σ n).text starW.data.toList

theorem stars_out (σ : PS) (n : Nat) : (stars σ n).out = σ.out ++ List.replicate n 42 := by
  induction n with
  | zero => simp [stars]
  | succ n ih =>
    show (stars σ n).out ++ [42] = _
    rw [ih, List.replicate_succ', List.append_assoc]

theorem stars_llvm (σ : PS) (n : Nat) : (stars σ n).llvm = σ.llvm := by
  induction n with
  | zero => rfl
  | succ n ih => exact ih

theorem mtPointerType (a : Addr) (w : World) : (method 304 108 (.pointer (some a)) "loop.example/pub-g01448/pub/demangle.print").run Try.prog w = .ok (140, .pointer (some a)) w := by kernel_rfl
theorem ccPointerType (args : Array Value) (w : World) : (callFunc 140 args).run Try.prog w = .ok (.enter 140 args) w := by kernel_rfl
theorem ntPointerType : NodeT 108 140 := meth_of 109 1 Try.underlying108 (by kernel_rfl) (by kernel_rfl) (by decide) mtPointerType ccPointerType
theorem iaPointerType (p : Value) (w : World) : (Instr.typeAssert (.iface 108 p) 49 173 true).run Try.prog w = .ok (.tuple #[.iface 108 p, .bool true]) w := by kernel_rfl
theorem ibPointerType (p : Value) (w : World) : (Instr.typeAssert (.iface 108 p) 49 173 false).run Try.prog w = .ok (.iface 108 p) w := by kernel_rfl
theorem imPointerType (a : Addr) (w : World) : (method 304 108 (.pointer (some a)) "loop.example/pub-g01448/pub/demangle.printInner").run Try.prog w = .ok (141, .pointer (some a)) w := by kernel_rfl
theorem icPointerType (args : Array Value) (w : World) : (callFunc 141 args).run Try.prog w = .ok (.enter 141 args) w := by kernel_rfl
theorem inPointerType : InnerT 108 141 := ⟨iaPointerType, ibPointerType, imPointerType, icPointerType⟩

set_option maxHeartbeats 1000000 in
theorem innerPointerType (A b : Nat) (w : World) (σ : PS) (inner pr : List Value) (h : PX A w σ inner pr) (hl : σ.out.length + 1 ≤ 140737488355328) :
    Calls Try.prog 141 #[.pointer (some ⟨b, 0, none⟩), .pointer (some ⟨A, 0, none⟩)] w fun e w' => e = .returned (.tuple #[]) ∧ PX A w' (σ.text starW.data.toList) inner pr ∧ Below A w w' := by
  go_enter Try.func141, Try.ntmps141
  go_wp2_with fail
  change Calls Try.prog 63 #[.pointer (some ⟨A, 0, none⟩), .string starW] w _
  refine (writeStringX A w σ inner pr starW h (by rw [show starW.size = 1 from rfl]; omega)).mono ?_
  rintro e w1 ⟨rfl, hp, hb⟩
  go_wp2_with fail
  go_end0
  exact ⟨rfl, hp, hb⟩

set_option maxHeartbeats 1000000 in
/-- PointerType's print, given what its base is printed to. -/
theorem mPointer_any (A b : Nat) (base : Value) (w : World) (σ σ1 : PS) (inner pr : List Value) (h : PX A w σ inner pr) (he : El A w b #[base] 109) (hl : inner.length ≤ 100000) (ho : σ1.out.length + 1 ≤ 140737488355328)
    (hbase : ∀ w1, PX A w1 σ (inner ++ [.iface 108 (.pointer (some ⟨b, 0, none⟩))]) pr → Below A w w1 →
      Calls Try.prog 60 #[.pointer (some ⟨A, 0, none⟩), base] w1 fun e w2 => e = .returned (.tuple #[]) ∧ PX A w2 σ1 (inner ++ [.iface 108 (.pointer (some ⟨b, 0, none⟩))]) pr ∧ Below A w1 w2) :
    Calls Try.prog 140 #[.pointer (some ⟨b, 0, none⟩), .pointer (some ⟨A, 0, none⟩)] w fun e w' => e = .returned (.tuple #[]) ∧ PX A w' (σ1.text starW.data.toList) inner pr ∧ Below A w w' := by
  have c0 : w.cell? ⟨b, 0, none⟩ = some base := he.cell 0
  have HB := Lib.hid hbase
  clear hbase
  go_enter Try.func140, Try.ntmps140
  go_wp2_with fail
  refine (printBase_keep A _ b _ _ w σ σ1 (σ1.text starW.data.toList) inner pr h inPointerType hl HB.out (fun w1 h1 hb1 => innerPointerType A b w1 _ _ pr h1 ho)).mono ?_
  rintro e w1 ⟨rfl, hp, hb⟩
  go_wp2_with fail
  go_end0
  exact ⟨rfl, hp, hb⟩

/-- n pointers, by printState.print. -/
theorem print_ptrs (A : Nat) (s : ByteArray) (n : Nat) : ∀ (T f b : Nat) (w : World) (σ : PS) (inner pr : List Value), Ptrs A w s n T f b → PX A w σ inner pr → σ.llvm = false → Above A w b pr →
    inner.length + n ≤ 100000 → pr.length + n ≤ 100000 → σ.out.length + s.size + n ≤ 140737488355328 →
    Calls Try.prog 60 #[.pointer (some ⟨A, 0, none⟩), .iface T (.pointer (some ⟨b, 0, none⟩))] w fun e w' => e = .returned (.tuple #[]) ∧ PX A w' (stars (σ.text s.data.toList) n) inner pr ∧ Below A w w' := by
  induction n with
  | zero =>
    intro T f b w σ inner pr hp h hv ha hi hpr ho
    obtain ⟨⟨rfl, rfl⟩, he⟩ := hp
    exact print_builtinX A b s w σ inner pr h hv he ha.others (by omega) (by omega)
  | succ n ih =>
    intro T f b w σ inner pr hp h hv ha hi hpr ho
    obtain ⟨⟨rfl, rfl⟩, T', f', b', hlt, he, hc⟩ := hp
    refine print_anyX A _ b _ w σ _ inner inner pr h ntPointerType he.node ha.others (by omega) fun w1 h1 hb1 => ?_
    refine mPointer_any A b _ w1 σ (stars (σ.text s.data.toList) n) inner _ h1 (he.keep hb1) (by omega) (by rw [stars_out, PS.text_out]; simp; omega) fun w2 h2 hb2 => ?_
    have hbb := hb1.trans hb2
    exact ih T' f' b' w2 σ _ _ (hc.keep hbb) h2 hv ((ha.keep hbb).snoc (he.keep hbb).node hlt) (by simp; omega) (by simp; omega) (by omega)

theorem Ptrs.nodeT {A : Nat} {w : World} {s : ByteArray} {n T f b : Nat} (h : Ptrs A w s n T f b) : NodeT T f := by
  cases n with
  | zero => obtain ⟨⟨rfl, rfl⟩, _⟩ := h; exact ntBuiltin
  | succ n => obtain ⟨⟨rfl, rfl⟩, _⟩ := h; exact ntPointerType

/-- n pointers, from the root. -/
theorem root_ptrs (A : Nat) (s : ByteArray) (n T f b : Nat) (w : World) (σ : PS) (hp : Ptrs A w s n T f b) (h : PX A w σ [] []) (hv : σ.llvm = false) (hn : n ≤ 5000) (ho : σ.out.length + s.size + n ≤ 140737488355328) :
    Calls Try.prog f #[.pointer (some ⟨b, 0, none⟩), .pointer (some ⟨A, 0, none⟩)] w fun e w' => e = .returned (.tuple #[]) ∧ PX A w' (stars (σ.text s.data.toList) n) [] [] ∧ Below A w w' := by
  cases n with
  | zero =>
    obtain ⟨⟨rfl, rfl⟩, he⟩ := hp
    obtain ⟨iv, h⟩ := h
    exact (mBuiltin_any A b s w _ [] h hv (he.cell 0) (by omega)).mono fun _ _ ⟨h1, h2, h3⟩ => ⟨h1, ⟨iv, h2⟩, h3⟩
  | succ n =>
    obtain ⟨⟨rfl, rfl⟩, T', f', b', hlt, he, hc⟩ := hp
    refine mPointer_any A b _ w σ (stars (σ.text s.data.toList) n) [] [] h he (by simp) (by rw [stars_out, PS.text_out]; simp; omega) fun w2 h2 hb2 => ?_
    exact print_ptrs A s n T' f' b' w2 σ _ [] (hc.keep hb2) h2 hv Above.nil (by simp; omega) (by simp; omega) (by omega)

end Go.Proofs.Ytjemnnfnocmjlaa

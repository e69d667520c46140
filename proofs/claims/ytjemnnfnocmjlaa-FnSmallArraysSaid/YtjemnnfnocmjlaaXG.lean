/-
  FnSmallScopesJoin, walked: true, whatever the texts.
-/
import Derived.Test.YtjemnnfnocmjlaaXF
namespace Go.Proofs.Ytjemnnfnocmjlaa
open Go.RowKit

/-- A name in scopes: the last text first; the type and the block of the outer element. -/
def Scs (A : Nat) (w : World) (first : ByteArray) : List ByteArray → TypeId → FuncId → Nat → Prop
  | [], T, f, b => (T = 97 ∧ f = 124) ∧ El A w b #[.string first] 99
  | x :: rest, T, f, b => (T = 102 ∧ f = 132) ∧ ∃ T' f' b' nb, b' < b ∧ nb < b ∧
      El A w b #[.iface T' (.pointer (some ⟨b', 0, none⟩)), .iface 97 (.pointer (some ⟨nb, 0, none⟩)), .bool false] 104 ∧ El A w nb #[.string x] 99 ∧ Scs A w first rest T' f' b'

theorem Scs.grow {A A' : Nat} {w w' : World} {s : ByteArray} {l : List ByteArray} {T f b : Nat} (h : Scs A w s l T f b) (hA : A ≤ A') (hb : Below A w w') : Scs A' w' s l T f b := by
  induction l generalizing T f b with
  | nil => exact ⟨h.1, by have := h.2.lt; omega, (h.2.keep hb).heap⟩
  | cons x l ih =>
    obtain ⟨h1, T', f', b', nb, hlt, hlt', he, hn, hc⟩ := h
    exact ⟨h1, T', f', b', nb, hlt, hlt', ⟨by have := he.lt; omega, (he.keep hb).heap⟩, ⟨by have := hn.lt; omega, (hn.keep hb).heap⟩, ih hc⟩

theorem Scs.lt {A : Nat} {w : World} {s : ByteArray} {l : List ByteArray} {T f b : Nat} (h : Scs A w s l T f b) : b < A := by
  cases l with
  | nil => exact h.2.lt
  | cons x l => obtain ⟨_, _, _, _, _, _, _, he, _⟩ := h; exact he.lt

def colonsW : ByteArray := ⟨#[58, 58]⟩

/-- The text of a name in scopes, the last one first. -/
def scText (first : ByteArray) : List ByteArray → ByteArray
  | [] => first
  | x :: rest => scText first rest ++ colonsW ++ x

/-- The state behind it. -/
def scSt (σ : PS) (first : ByteArray) : List ByteArray → PS
  | [] => σ.text first.data.toList
  | x :: rest => ((scSt σ first rest).text colonsW.data.toList).text x.data.toList

theorem scSt_out (σ : PS) (first : ByteArray) (l : List ByteArray) : (scSt σ first l).out = σ.out ++ (scText first l).data.toList := by
  induction l with
  | nil => rfl
  | cons x l ih =>
    show ((scSt σ first l).out ++ colonsW.data.toList) ++ x.data.toList = _
    rw [ih, scText, bytes_append, bytes_append]
    simp

theorem scSt_len (σ : PS) (first : ByteArray) (l : List ByteArray) : (scSt σ first l).out.length = σ.out.length + (scText first l).size := by
  rw [scSt_out, List.length_append, Array.length_toList]
  rfl

theorem mtQualified (a : Addr) (w : World) : (method 304 102 (.pointer (some a)) "loop.example/pub-g01448/pub/demangle.print").run Try.prog w = .ok (132, .pointer (some a)) w := by kernel_rfl
theorem ccQualified (args : Array Value) (w : World) : (callFunc 132 args).run Try.prog w = .ok (.enter 132 args) w := by kernel_rfl
theorem ntQualified : NodeT 102 132 := meth_of 104 3 Try.underlying102 (by kernel_rfl) (by kernel_rfl) (by decide) mtQualified ccQualified

set_option maxHeartbeats 1000000 in
/-- Qualified's print, given what its scope is printed to. -/
theorem mQualified_any (A b nb : Nat) (scope : Value) (x : ByteArray) (w : World) (σ1 : PS) (inner pr : List Value) (he : El A w b #[scope, .iface 97 (.pointer (some ⟨nb, 0, none⟩)), .bool false] 104)
    (hn : El A w nb #[.string x] 99) (ho : Others A w nb pr) (hl : pr.length ≤ 100000) (hx : σ1.out.length + 2 + x.size ≤ 140737488355328)
    (hscope : Calls Try.prog 60 #[.pointer (some ⟨A, 0, none⟩), scope] w fun e w2 => e = .returned (.tuple #[]) ∧ PX A w2 σ1 inner pr ∧ Below A w w2) :
    Calls Try.prog 132 #[.pointer (some ⟨b, 0, none⟩), .pointer (some ⟨A, 0, none⟩)] w fun e w' => e = .returned (.tuple #[]) ∧ PX A w' ((σ1.text colonsW.data.toList).text x.data.toList) inner pr ∧ Below A w w' := by
  have c0 : w.cell? ⟨b, 0, none⟩ = some scope := he.cell 0
  have HS := Lib.hid hscope
  clear hscope
  go_enter Try.func132, Try.ntmps132
  go_wp2_with fail
  refine HS.out.mono ?_
  rintro e w1 ⟨rfl, hp, hb⟩
  go_wp2_with fail
  change Calls Try.prog 63 #[.pointer (some ⟨A, 0, none⟩), .string colonsW] w1 _
  refine (writeStringX A w1 σ1 inner pr colonsW hp (by rw [show colonsW.size = 2 from rfl]; omega)).mono ?_
  rintro e w2 ⟨rfl, hp2, hb2⟩
  have hbw := hb.trans hb2
  have c1 : w2.cell? ⟨b, 1, none⟩ = some (.iface 97 (.pointer (some ⟨nb, 0, none⟩))) := (he.keep hbw).cell 1
  go_wp2_with fail
  refine (print_nameX A nb x w2 _ inner pr hp2 (hn.keep hbw) (ho.keep hbw) hl (by rw [PS.text_out, List.length_append, show colonsW.data.toList.length = 2 from rfl]; omega)).mono ?_
  rintro e w3 ⟨rfl, hp3, hb3⟩
  go_wp2_with fail
  go_end0
  exact ⟨rfl, hp3, hbw.trans hb3⟩

theorem print_scs (A : Nat) (first : ByteArray) (l : List ByteArray) : ∀ (T f b : Nat) (w : World) (σ : PS) (inner pr : List Value), Scs A w first l T f b → PX A w σ inner pr → Above A w b pr →
    pr.length + l.length ≤ 100000 → σ.out.length + (scText first l).size ≤ 140737488355328 →
    Calls Try.prog 60 #[.pointer (some ⟨A, 0, none⟩), .iface T (.pointer (some ⟨b, 0, none⟩))] w fun e w' => e = .returned (.tuple #[]) ∧ PX A w' (scSt σ first l) inner pr ∧ Below A w w' := by
  induction l with
  | nil =>
    intro T f b w σ inner pr hp h ha hl ho
    obtain ⟨⟨rfl, rfl⟩, he⟩ := hp
    exact print_nameX A b first w σ inner pr h he ha.others (by simpa using hl) ho
  | cons x l ih =>
    intro T f b w σ inner pr hp h ha hl ho
    obtain ⟨⟨rfl, rfl⟩, T', f', b', nb, hlt, hlt', he, hn, hc⟩ := hp
    simp at hl
    have hsz : (scText first (x :: l)).size = (scText first l).size + 2 + x.size := by
      rw [scText, ByteArray.size_append, ByteArray.size_append]
      rfl
    refine print_anyX A _ b _ w σ _ inner inner pr h ntQualified he.node ha.others (by omega) fun w1 h1 hb1 => ?_
    have ha1 := (ha.keep hb1).snoc (T := 102) (he.keep hb1).node hlt
    refine mQualified_any A b nb _ x w1 (scSt σ first l) inner _ (he.keep hb1) (hn.keep hb1) ((ha.keep hb1).snoc (T := 102) (he.keep hb1).node hlt').others (by simp; omega) (by rw [scSt_len]; omega) ?_
    exact ih T' f' b' w1 σ inner _ (hc.grow (Nat.le_refl _) hb1) h1 ha1 (by simp; omega) (by omega)

theorem Scs.nodeT {A : Nat} {w : World} {s : ByteArray} {l : List ByteArray} {T f b : Nat} (h : Scs A w s l T f b) : NodeT T f := by
  cases l with
  | nil => obtain ⟨⟨rfl, rfl⟩, _⟩ := h; exact ntName
  | cons x l => obtain ⟨⟨rfl, rfl⟩, _⟩ := h; exact ntQualified

theorem root_scs (A : Nat) (first : ByteArray) (l : List ByteArray) (T f b : Nat) (w : World) (σ : PS) (hp : Scs A w first l T f b) (h : PX A w σ [] []) (hl : l.length ≤ 5000) (ho : σ.out.length + (scText first l).size ≤ 140737488355328) :
    Calls Try.prog f #[.pointer (some ⟨b, 0, none⟩), .pointer (some ⟨A, 0, none⟩)] w fun e w' => e = .returned (.tuple #[]) ∧ PX A w' (scSt σ first l) [] [] ∧ Below A w w' := by
  cases l with
  | nil =>
    obtain ⟨⟨rfl, rfl⟩, he⟩ := hp
    obtain ⟨iv, h⟩ := h
    exact (mName_any A b first w _ [] h (he.cell 0) ho).mono fun _ _ ⟨h1, h2, h3⟩ => ⟨h1, ⟨iv, h2⟩, h3⟩
  | cons x l =>
    obtain ⟨⟨rfl, rfl⟩, T', f', b', nb, hlt, hlt', he, hn, hc⟩ := hp
    have hsz : (scText first (x :: l)).size = (scText first l).size + 2 + x.size := by
      rw [scText, ByteArray.size_append, ByteArray.size_append]
      rfl
    simp at hl
    exact mQualified_any A b nb _ x w (scSt σ first l) [] [] he hn Others.nil (by simp) (by rw [scSt_len]; omega)
      (print_scs A first l T' f' b' w σ [] [] hc h Above.nil (by simp; omega) (by omega))

end Go.Proofs.Ytjemnnfnocmjlaa

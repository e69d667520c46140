/-
  CopyTemplate's functions: renaming's closure and Copy at a Name.
-/
import Derived.Test.YtfpojbcmhnaojaaS
import Derived.Deep.QuietTactic
import Derived.BigQuiet
namespace Go.Proofs.Ytfpojbcmhnaojaa
open Go.RowKit

theorem taNN (p : Value) (w : World) : (Instr.typeAssert (.iface 44 p) 31 44 true).run Try.prog w = .ok (.tuple #[p, .bool true]) w := by kernel_rfl
theorem taTN (p : Value) (w : World) : (Instr.typeAssert (.iface 32 p) 31 44 true).run Try.prog w = .ok (.tuple #[.pointer none, .bool false]) w := by kernel_rfl

/-- The two variables that the closure captures. -/
structure Caps (w : World) (b1 b2 : Nat) (frm to : ByteArray) : Prop where
  c1 : w.cell? ⟨b1, 0, none⟩ = some (.string frm)
  c2 : w.cell? ⟨b2, 0, none⟩ = some (.string to)

theorem Caps.keep {w w' : World} {b1 b2 : Nat} {frm to : ByteArray} (h : Caps w b1 b2 frm to) (hk : Below w.heap.size w w') : Caps w' b1 b2 frm to :=
  ⟨by rw [hk.cell (p := ⟨b1, 0, none⟩) (World.block_lt_of_cell? w _ h.c1)]; exact h.c1, by rw [hk.cell (p := ⟨b2, 0, none⟩) (World.block_lt_of_cell? w _ h.c2)]; exact h.c2⟩

set_option maxHeartbeats 400000 in
theorem skip_any (v : Value) (w : World) : Calls Try.prog 12 #[v] w fun e w' => e = .returned (.bool false) ∧ w = w' := by
  go_enter Try.func12, Try.ntmps12
  go_wp2
  go_ret
  exact ⟨rfl, rfl⟩

set_option maxHeartbeats 1000000 in
theorem ren_tmpl (p : Value) (b1 b2 : Nat) (w : World) :
    Calls Try.prog 14 #[.iface 32 p, .pointer (some ⟨b1, 0, none⟩), .pointer (some ⟨b2, 0, none⟩)] w fun e w' => e = .returned .nilIface ∧ Below w.heap.size w w' := by
  have t1 := taTN
  go_enter Try.func14, Try.ntmps14
  go_wp2_with fail
  go_quiet (fail)
  go_wp2_with fail
  go_ret
  exact ⟨rfl, below_drewN (Below.refl _ _) _⟩

/-- What the closure hands back at a Name whose text is s: a copy where s is the text sought, else nil. -/
def Renamed (s frm to : ByteArray) (w : World) (e : Ending) (w' : World) : Prop :=
  Below w.heap.size w w' ∧ ((s = frm ∧ ∃ v, e = .returned v ∧ IsName w' w.heap.size to v) ∨ (s ≠ frm ∧ e = .returned .nilIface))

set_option maxHeartbeats 1000000 in
theorem ren_name (b b1 b2 B : Nat) (s frm to : ByteArray) (w : World) (hc : Caps w b1 b2 frm to) (hn : IsName w B s (.iface 44 (.pointer (some ⟨b, 0, none⟩)))) :
    Calls Try.prog 14 #[.iface 44 (.pointer (some ⟨b, 0, none⟩)), .pointer (some ⟨b1, 0, none⟩), .pointer (some ⟨b2, 0, none⟩)] w (Renamed s frm to w) := by
  obtain ⟨b', e, _, hb⟩ := hn
  have e' : b = b' := by simpa using e
  subst e'
  clear e
  have h1 := hc.c1
  have h2 := hc.c2
  have h3 : w.cell? ⟨b, 0, none⟩ = some (.string s) := cell_of_one hb
  have t1 := taNN
  clear hb hc
  by_cases hs : s = frm
  · subst hs
    go_enter Try.func14, Try.ntmps14
    go_wp2_with fail
    go_quiet (fail)
    go_wp2_with fail
    go_ret
    exact ⟨(below_drewN (Below.refl _ _) _).alloc (Nat.le_refl _) _, .inl ⟨rfl, _, rfl, w.heap.size, rfl, Nat.le_refl _, heap_alloc_new (w.drewN nq) _⟩⟩
  · have q := str_ne hs
    have HQ := Lib.hid hs
    clear hs
    go_enter Try.func14, Try.ntmps14
    go_wp2_with fail
    go_quiet (fail)
    go_wp2_with fail
    go_ret
    exact ⟨below_drewN (Below.refl _ _) _, .inr ⟨HQ.out, rfl⟩⟩

/-- Copy at a Name. -/
theorem mCopyN (a : Addr) (w : World) : (method 170 44 (.pointer (some a)) "Copy").run Try.prog w = .ok (32, .pointer (some a)) w := by kernel_rfl

set_option maxHeartbeats 1000000 in
theorem copy_name (b b1 b2 B : Nat) (s frm to : ByteArray) (w : World) (hc : Caps w b1 b2 frm to) (hn : IsName w B s (.iface 44 (.pointer (some ⟨b, 0, none⟩)))) :
    Calls Try.prog 32 #[.pointer (some ⟨b, 0, none⟩), .func (.func 14) #[] #[.pointer (some ⟨b1, 0, none⟩), .pointer (some ⟨b2, 0, none⟩)], .func (.func 12) #[] #[]] w (Renamed s frm to w) := by
  go_enter Try.func32, Try.ntmps32
  go_wp2_with fail
  refine (skip_any _ w).mono ?_
  rintro e w1 ⟨rfl, rfl⟩
  go_wp2_with fail
  refine (ren_name b b1 b2 B s frm to w hc hn).mono ?_
  rintro e w1 ⟨hb, hr⟩
  rcases hr with ⟨h1, v, rfl, h2⟩ | ⟨h1, rfl⟩
  · have H1 := Lib.hid h1
    clear h1
    go_wp2_with fail
    go_ret
    exact ⟨hb, .inl ⟨H1.out, v, rfl, h2⟩⟩
  · have H1 := Lib.hid h1
    clear h1
    go_wp2_with fail
    go_ret
    exact ⟨hb, .inr ⟨H1.out, rfl⟩⟩

end Go.Proofs.Ytfpojbcmhnaojaa

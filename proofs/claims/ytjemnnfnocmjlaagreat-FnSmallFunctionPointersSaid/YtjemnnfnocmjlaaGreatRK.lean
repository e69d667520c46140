/-
  The inner types: a list that grows and shrinks; printBase; printOneInner.
-/
import Derived.Test.YtjemnnfnocmjlaaGreatVK
namespace Go.Proofs.YtjemnnfnocmjlaaGreat
open Go.RowKit

/-- The state σ with these inner types, whatever slice they lie in. -/
def PX (A : Nat) (w : World) (σ : PS) (inner : List Value) (pr : List Value) : Prop := ∃ iv, PSt A w { σ with iv := iv, inner := inner } pr

theorem PX.keepAll {A : Nat} {w : World} {σ : PS} {pr : List Value} (h : PSt A w σ pr) : PX A w σ σ.inner pr := ⟨σ.iv, h⟩

/-- The slice of the inner types, as the struct holds it. -/
theorem PX.row {A : Nat} {w : World} {σ : PS} {inner pr : List Value} (h : PX A w σ inner pr) :
    ∃ a cap, w.cell? ⟨A, 8, none⟩ = some (.slice a inner.length cap) ∧ w.ownsRow (A + 1) 36 1 (.slice a inner.length cap) inner.length inner ∧
      PSt A w { σ with iv := .slice a inner.length cap, inner := inner } pr ∧ (0 < inner.length → ∃ g, a = some ⟨g, 0, none⟩ ∧ inner.length ≤ cap) := by
  obtain ⟨iv, h⟩ := h
  have hc := h.cInner
  obtain ⟨ad, bv, pv, hA, h1, h2, h3, h4, h5, h6, h7⟩ := id h
  rcases h4.2 with ⟨e, e'⟩ | ⟨g, cap, cur, e, _, _, hn, _⟩
  · have e1 : iv = .slice none inner.length 0 := by rw [show inner.length = 0 from e']; exact e
    subst e1
    exact ⟨none, 0, hc, h4, h, fun hlt => by simp at e'; simp [e'] at hlt⟩
  · have e1 : iv = .slice (some ⟨g, 0, none⟩) inner.length cap := e
    subst e1
    exact ⟨_, cap, hc, h4, h, fun _ => ⟨g, rfl, hn⟩⟩

theorem PX.parts {A : Nat} {w : World} {σ : PS} {inner pr : List Value} (h : PX A w σ inner pr) : (∀ j, w.frozen? ⟨A, j, none⟩ = false) ∧ A < w.heap.size ∧ w.cell? ⟨A, 2, none⟩ = some (.bool σ.llvm) ∧ w.cell? ⟨A, 7, none⟩ = some (.int .u8 σ.last) := by
  obtain ⟨iv, h⟩ := h
  exact ⟨h.free, h.lt, h.cLlvm, h.cLast⟩

theorem PX.drew {A : Nat} {w : World} {σ : PS} {inner pr : List Value} (h : PX A w σ inner pr) : PX A w.drew σ inner pr := h
theorem PX.drewN {A : Nat} {w : World} {σ : PS} {inner pr : List Value} (h : PX A w σ inner pr) (n : Nat) : PX A (w.drewN n) σ inner pr := h

/-- A new slice of inner types is laid into the struct. -/
theorem PX.set {A : Nat} {w w1 : World} {σ : PS} {inner inner' pr : List Value} {iv v1 : Value} (h : PSt A w { σ with iv := iv, inner := inner } pr)
    (hown : w1.ownsRow (A + 1) 36 1 v1 inner'.length inner') (hg : w.grownBy w1 iv.ownBlock) (hn : v1.ownBlock = iv.ownBlock ∨ ∃ g, v1.ownBlock = some g ∧ w.heap.size ≤ g) :
    (∃ a n c, v1 = .slice a n c) ∧ w1.cell? ⟨A, 8, none⟩ = some iv ∧ w1.frozen? ⟨A, 8, none⟩ = false ∧ PX A (w1.setCell ⟨A, 8, none⟩ v1) σ inner' pr ∧ Below A w (w1.setCell ⟨A, 8, none⟩ v1) := by
  obtain ⟨ad, bv, pv, hA, h1, h2, h3, h4, h5, h6, h7⟩ := h
  dsimp only at hA h2 h3 h4 h5 h6 h7
  have hne : some A ≠ iv.ownBlock := fun e => by have := (h4.lt A e.symm).1; omega
  have hA1 : w1.heap[A]? = some (.cells #[.bool σ.tp, .bool σ.ep, .bool σ.llvm, .int .i64 0, .int .i64 σ.scopes, ad, bv, .int .u8 σ.last, iv, pv] 59 (0, 0)) := by
    rw [hg.block A (lt_of_block hA) hne, hA]
  have hpv : pv.ownBlock = none ∨ pv.ownBlock ≠ iv.ownBlock := by
    cases hv : iv.ownBlock with
    | none => cases pv.ownBlock <;> simp
    | some g => exact .inr (fun e => h6 g hv e)
  refine ⟨?_, by simp [World.cell?, hA1], Lib.frozen_of_heap hA1 8, ⟨v1, ad, bv, pv, by simpa using heap_setCell_same w1 A 8 _ _ v1 hA1, h1, ?_, h3, own_store hown _ _, ?_, ?_, (h7.grown h4 (.inr rfl) hg).store hA1 _ _⟩, ?_⟩
  · rcases hown.2 with ⟨e, _⟩ | ⟨g, cap, cur, e, _⟩
    · exact ⟨_, _, _, e⟩
    · exact ⟨_, _, _, e⟩
  · exact own_store (h2.kept hg (rows_apart h2 h4 (by decide))) _ _
  · exact own_store (h5.kept hg hpv) _ _
  · intro g hi hv
    rcases hn with hn | ⟨g', hn, hge⟩
    · rw [show v1.ownBlock = iv.ownBlock from hn] at hi
      exact h6 g hi hv
    · have := (h5.lt g hv).2
      rw [show v1.ownBlock = some g' from hn] at hi
      simp at hi
      omega
  · exact ((Below.refl A w).grown hg (Nat.le_of_lt (lt_of_block hA)) (fun k hk => by have := (h4.lt k hk).1; omega)).setCell (p := ⟨A, 8, none⟩) (Nat.le_refl A) _

/-- What the program's table says of a type that prints itself as an inner type: its method printInner is the function f. -/
structure InnerT (T : TypeId) (f : FuncId) : Prop where
  ta : ∀ (p : Value) (w : World), (Instr.typeAssert (.iface T p) 36 118 true).run Tryz.prog w = .ok (.tuple #[.iface T p, .bool true]) w
  tb : ∀ (p : Value) (w : World), (Instr.typeAssert (.iface T p) 36 118 false).run Tryz.prog w = .ok (.iface T p) w
  m : ∀ (a : Addr) (w : World), (method 264 T (.pointer (some a)) "loop.example/pub-g01448/pub/demangle.printInner").run Tryz.prog w = .ok (f, .pointer (some a)) w
  c : ∀ (args : Array Value) (w : World), (callFunc f args).run Tryz.prog w = .ok (.enter f args) w

set_option maxRecDepth 100000 in
set_option maxHeartbeats 2000000 in
theorem printBase_keep (A T b f : Nat) (base : Value) (w : World) (σ σ1 σ2 : PS) (inner pr : List Value) (h : PX A w σ inner pr) (hi : InnerT T f) (hl : inner.length ≤ 100000)
    (hbase : ∀ w1, PX A w1 σ (inner ++ [.iface T (.pointer (some ⟨b, 0, none⟩))]) pr → Below A w w1 →
      Calls Tryz.prog 39 #[.pointer (some ⟨A, 0, none⟩), base] w1 fun e w2 => e = .returned (.tuple #[]) ∧ PX A w2 σ1 (inner ++ [.iface T (.pointer (some ⟨b, 0, none⟩))]) pr ∧ Below A w1 w2)
    (hin : ∀ w1, PX A w1 σ1 (inner ++ [.iface T (.pointer (some ⟨b, 0, none⟩))]) pr → Below A w w1 →
      Calls Tryz.prog f #[.pointer (some ⟨b, 0, none⟩), .pointer (some ⟨A, 0, none⟩)] w1 fun e w2 => e = .returned (.tuple #[]) ∧ PX A w2 σ2 (inner ++ [.iface T (.pointer (some ⟨b, 0, none⟩))]) pr ∧ Below A w1 w2) :
    Calls Tryz.prog 60 #[.pointer (some ⟨A, 0, none⟩), .iface T (.pointer (some ⟨b, 0, none⟩)), base] w fun e w' => e = .returned (.tuple #[]) ∧ PX A w' σ2 inner pr ∧ Below A w w' := by
  obtain ⟨a, cap, hc, hown, hp, _⟩ := h.row
  have hA := hp.lt
  have f8 := hp.free 8
  obtain ⟨i0, hi0, hz0, hz1, hz2⟩ := info_parts Tryz.infoAst
  have HP := Lib.hid hp
  have HB := Lib.hid hbase
  have HI := Lib.hid hin
  have HN := Lib.hid hi
  clear h hp hbase hin hi
  go_enter Tryz.func60, Tryz.ntmps60
  go_wp2_with (at_builtin; refine wpList_append_srcB _ rfl _ _ 42 42 rfl (A + 1) 36 i0 .nilIface 1 16 Tryz.underlying42 hi0 hz0 hz1 hz2 rfl _ _ _ _ rfl rfl (hown.alloc _) 1 [.iface T (.pointer (some ⟨b, 0, none⟩))] (Src.ofSlice _ Tryz.underlying42 ⟨w.heap.size, 0, none⟩ 1 1 _ rfl (cell_one_new _ _ _) (by simp [Value.oneCell'])) ?c3 (by omega) (by simp; omega) ?_)
  case c3 => unfold maxLen; omega
  intro v1 w1 hown1 hg1 hn1
  have hg' : w.grownBy w1 (Value.slice a inner.length cap).ownBlock := ⟨hg1.os, hg1.tape, hg1.output, by have := hg1.size; simp at this; omega, fun k hk hne => by rw [hg1.block k (by simp; omega) hne, Below.heap_alloc _ _ _ hk]⟩
  obtain ⟨⟨a1, n1, cap1, rfl⟩, k1, k2, k3, k4⟩ := PX.set (inner' := inner ++ [.iface T (.pointer (some ⟨b, 0, none⟩))]) HP.out (by simpa using hown1) hg' (by
    rcases hn1 with h | ⟨g, h, hge⟩
    · exact .inl h
    · exact .inr ⟨g, h, by omega⟩)
  have K3 := Lib.hid k3
  have K4 := Lib.hid k4
  clear hown hown1 hg1 hn1 hg' hc k3 k4 f8
  go_wp2_with fail
  refine (HB.out _ K3.out K4.out).mono ?_
  rintro e w2 ⟨rfl, hp2, hb2⟩
  obtain ⟨a2, cap2, hc2, hown2, hp2', hpos⟩ := hp2.row
  obtain ⟨g2, rfl, hcap2⟩ := hpos (by simp)
  have hbw2 := K4.out.trans hb2
  have e1 := HN.out.tb
  have e2 := HN.out.m
  have e3 := HN.out.c
  have HP2 := Lib.hid hp2
  have hlen : (inner ++ [Value.iface T (.pointer (some ⟨b, 0, none⟩))]).length = inner.length + 1 := by simp
  rw [hlen] at hc2
  clear hb2 hp2 hp2' hown2 hpos hcap2 hlen k1 k2
  go_wp2_with fail
  refine (HI.out _ HP2.out hbw2).mono ?_
  rintro e w3 ⟨rfl, hp3, hb3⟩
  have hbw3 := hbw2.trans hb3
  obtain ⟨a3, cap3, hc3, hown3, hp3', hpos3⟩ := hp3.row
  obtain ⟨g3, rfl, hcap3⟩ := hpos3 (by simp)
  have hlen : (inner ++ [Value.iface T (.pointer (some ⟨b, 0, none⟩))]).length = inner.length + 1 := by simp
  rw [hlen] at hc3 hcap3 hown3 hp3'
  have f8 := hp3'.free 8
  obtain ⟨_, _, _, hset, hbset⟩ := PX.set (inner' := inner) hp3' (own_pop hown3) (World.grownBy.refl _ _) (.inl rfl)
  have HSET := Lib.hid hset
  have HBS := Lib.hid hbset
  clear hb3 hp3 hp3' hown3 hpos3 hlen hset hbset e1 e2 e3 hc2 hbw2
  go_wp2_with fail
  go_region
  go_end0
  have hfin := hbw3.trans HBS.out
  exact ⟨rfl, HSET.out, ⟨hfin.os, hfin.tape, hfin.output, hfin.size, hfin.block⟩⟩

end Go.Proofs.YtjemnnfnocmjlaaGreat

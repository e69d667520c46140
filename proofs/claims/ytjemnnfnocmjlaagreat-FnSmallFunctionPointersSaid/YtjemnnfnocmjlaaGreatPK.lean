/-
  The state of a printing: what its struct holds; the Builder's methods and writeByte, writeString, startScope, endScope over it.
-/
import Derived.Test.YtjemnnfnocmjlaaGreatS
import Derived.Lib.Builder
import Derived.Lib.AppendStr
import Derived.Lib.UnsafeStr
import Derived.Deep.QuietTactic
import Derived.BigQuiet
namespace Go.Proofs.YtjemnnfnocmjlaaGreat
open Go.RowKit

theorem Tryz.infoByte : (Tryz.prog.info? 5).map (fun i => (i.zero, i.size, i.bytes)) = some (some (.int .u8 0), 1, 1) := by kernel_rfl

/-- What a printing knows: its options, how many scopes are open, the bytes written, the last one, the inner types (as a value, and as a list). -/
structure PS where
  tp : Bool
  ep : Bool
  llvm : Bool
  scopes : Int
  out : List UInt8
  last : Int
  iv : Value
  inner : List Value
  kept : List (Nat × Array Value × Nat)

/-- These blocks hold what they held; none is a byte, an element or the struct. -/
def Kept (w : World) (ks : List (Nat × Array Value × Nat)) : Prop := ∀ p ∈ ks, w.heap[p.1]? = some (.cells p.2.1 p.2.2 (0, 0)) ∧ p.2.2 ≠ 5 ∧ p.2.2 ≠ 36 ∧ p.2.2 ≠ 59

theorem Kept.nil (w : World) : Kept w [] := fun p hp => by simp at hp

/-- No row of bytes or elements is one of them. -/
theorem Kept.ne {w : World} {ks : List (Nat × Array Value × Nat)} (h : Kept w ks) {B e n : Nat} {v : Value} {xs : List Value} (hr : w.ownsRow B e 1 v n xs) (he : e = 5 ∨ e = 36) {p : Nat × Array Value × Nat} (hp : p ∈ ks) : some p.1 ≠ v.ownBlock := by
  rcases hr.2 with ⟨rfl, _⟩ | ⟨g, cap, cur, rfl, _, hg, _⟩
  · simp [Value.ownBlock]
  · simp only [Value.ownBlock, ne_eq, Option.some.injEq]
    intro e1
    obtain ⟨h1, h2, h3, _⟩ := h p hp
    rw [e1, hg] at h1
    simp at h1
    rcases he with rfl | rfl
    · exact h2 h1.2.symm
    · exact h3 h1.2.symm

theorem Kept.grown {w w1 : World} {ks : List (Nat × Array Value × Nat)} (h : Kept w ks) {B e n : Nat} {v : Value} {xs : List Value} (hr : w.ownsRow B e 1 v n xs) (he : e = 5 ∨ e = 36) (hg : w.grownBy w1 v.ownBlock) : Kept w1 ks := fun p hp => by
  obtain ⟨h1, h2⟩ := h p hp
  exact ⟨by rw [hg.block p.1 (lt_of_block h1) (h.ne hr he hp), h1], h2⟩

theorem Kept.store {w : World} {ks : List (Nat × Array Value × Nat)} (h : Kept w ks) {A : Nat} {cs : Array Value} {x : Nat × Nat} (hA : w.heap[A]? = some (.cells cs 59 x)) (j : Nat) (u : Value) : Kept (w.setCell ⟨A, j, none⟩ u) ks := fun p hp => by
  obtain ⟨h1, h2, h3, h4⟩ := h p hp
  refine ⟨?_, h2, h3, h4⟩
  rw [Below.heap_setCell _ _ _ _ (fun e => ?_), h1]
  simp at e
  rw [e, hA] at h1
  simp at h1
  exact h4 h1.2.1.symm

/-- Block A is the struct of a printing in the state σ, in which pr are being printed. -/
def PSt (A : Nat) (w : World) (σ : PS) (pr : List Value) : Prop := ∃ ad bv pv,
  w.heap[A]? = some (.cells #[.bool σ.tp, .bool σ.ep, .bool σ.llvm, .int .i64 0, .int .i64 σ.scopes, ad, bv, .int .u8 σ.last, σ.iv, pv] 59 (0, 0)) ∧
  (ad = .pointer none ∨ ad = .pointer (some ⟨A, 5, none⟩)) ∧
  w.ownsRow (A + 1) 5 1 bv σ.out.length (Lib.byteCells σ.out) ∧ (σ.out = [] → bv = .slice none 0 0) ∧
  w.ownsRow (A + 1) 36 1 σ.iv σ.inner.length σ.inner ∧
  w.ownsRow (A + 1) 36 1 pv pr.length pr ∧
  (∀ g, σ.iv.ownBlock = some g → pv.ownBlock ≠ some g) ∧ Kept w σ.kept

/-- Rows of two kinds lie in two blocks. -/
theorem rows_apart {w : World} {B B' e e' : Nat} {v v' : Value} {n n' : Nat} {xs xs' : List Value} (h : w.ownsRow B e 1 v n xs) (h' : w.ownsRow B' e' 1 v' n' xs') (he : e ≠ e') : v.ownBlock = none ∨ v.ownBlock ≠ v'.ownBlock := by
  rcases h.2 with ⟨rfl, _⟩ | ⟨g, cap, cur, rfl, _, hg, _⟩
  · exact .inl rfl
  · right
    intro e1
    rcases h'.2 with ⟨rfl, _⟩ | ⟨g', cap', cur', rfl, _, hg', _⟩
    · simp [Value.ownBlock] at e1
    · simp [Value.ownBlock] at e1
      subst e1
      rw [hg] at hg'
      simp at hg'
      exact he hg'.2

theorem grownBy_setCell (w : World) (A j : Nat) (u : Value) : w.grownBy (w.setCell ⟨A, j, none⟩ u) (some A) :=
  ⟨rfl, rfl, rfl, by simp [World.setCell], fun k _ hk => Below.heap_setCell _ _ _ _ (fun e => hk (by simp [e]))⟩

theorem Below.grownNone {w w' : World} {B : Nat} (h : Below B w w') (hB : w.heap.size ≤ B) : w.grownBy w' none := ⟨h.os, h.tape, h.output, h.size, fun k hk _ => h.block k (by omega)⟩

/-- A store into the struct: the rows stay. -/
theorem own_store {w : World} {A e n : Nat} {v : Value} {xs : List Value} (h : w.ownsRow (A + 1) e 1 v n xs) (j : Nat) (u : Value) : (w.setCell ⟨A, j, none⟩ u).ownsRow (A + 1) e 1 v n xs :=
  ownsRow_setCell_below h (a := ⟨A, j, none⟩) (Nat.lt_succ_self A) u

theorem PSt.last {A : Nat} {w : World} {σ : PS} {pr : List Value} (h : PSt A w σ pr) (c : Int) : PSt A (w.setCell ⟨A, 7, none⟩ (.int .u8 c)) { σ with last := c } pr := by
  obtain ⟨ad, bv, pv, hA, h1, h2, h3, h4, h5, h6, h7⟩ := h
  exact ⟨ad, bv, pv, by simpa using heap_setCell_same w A 7 _ _ (.int .u8 c) hA, h1, own_store h2 _ _, h3, own_store h4 _ _, own_store h5 _ _, h6, h7.store hA _ _⟩

theorem PSt.scope {A : Nat} {w : World} {σ : PS} {pr : List Value} (h : PSt A w σ pr) (c : Int) : PSt A (w.setCell ⟨A, 4, none⟩ (.int .i64 c)) { σ with scopes := c } pr := by
  obtain ⟨ad, bv, pv, hA, h1, h2, h3, h4, h5, h6, h7⟩ := h
  exact ⟨ad, bv, pv, by simpa using heap_setCell_same w A 4 _ _ (.int .i64 c) hA, h1, own_store h2 _ _, h3, own_store h4 _ _, own_store h5 _ _, h6, h7.store hA _ _⟩

theorem PSt.lt {A : Nat} {w : World} {σ : PS} {pr : List Value} (h : PSt A w σ pr) : A < w.heap.size := by
  obtain ⟨ad, bv, pv, hA, _⟩ := h
  exact lt_of_block hA

theorem PSt.shape {A : Nat} {w : World} {σ : PS} {pr : List Value} (h : PSt A w σ pr) : w.shape? A = some (59, 10) := by
  obtain ⟨ad, bv, pv, hA, _⟩ := h
  simp [World.shape?, hA]

theorem PSt.free {A : Nat} {w : World} {σ : PS} {pr : List Value} (h : PSt A w σ pr) (j : Nat) : w.frozen? ⟨A, j, none⟩ = false := by
  obtain ⟨ad, bv, pv, hA, _⟩ := h
  exact Lib.frozen_of_heap hA j

theorem PSt.alloc {A : Nat} {w : World} {σ : PS} {pr : List Value} (h : PSt A w σ pr) (o : Obj) : PSt A (w.alloc o) σ pr := by
  obtain ⟨ad, bv, pv, hA, h1, h2, h3, h4, h5, h6, h7⟩ := h
  exact ⟨ad, bv, pv, by rw [Below.heap_alloc _ _ _ (lt_of_block hA)]; exact hA, h1, h2.alloc o, h3, h4.alloc o, h5.alloc o, h6, fun p hp => ⟨by rw [Below.heap_alloc _ _ _ (lt_of_block (h7 p hp).1)]; exact (h7 p hp).1, (h7 p hp).2⟩⟩

/-- One more that stays. -/
theorem PSt.keepOne {A : Nat} {w : World} {σ : PS} {pr : List Value} (h : PSt A w σ pr) (k : Nat) (cs : Array Value) (T : Nat) (hk : w.heap[k]? = some (.cells cs T (0, 0))) (h1 : T ≠ 5) (h2 : T ≠ 36) (h3 : T ≠ 59) :
    PSt A w { σ with kept := (k, cs, T) :: σ.kept } pr := by
  obtain ⟨ad, bv, pv, hA, g1, g2, g3, g4, g5, g6, g7⟩ := h
  refine ⟨ad, bv, pv, hA, g1, g2, g3, g4, g5, g6, fun p hp => ?_⟩
  rcases List.mem_cons.1 hp with rfl | hp
  · exact ⟨hk, h1, h2, h3⟩
  · exact g7 p hp

theorem PSt.keptAt {A : Nat} {w : World} {σ : PS} {pr : List Value} (h : PSt A w σ pr) {k : Nat} {cs : Array Value} {T : Nat} (hk : (k, cs, T) ∈ σ.kept) : w.heap[k]? = some (.cells cs T (0, 0)) := by
  obtain ⟨ad, bv, pv, hA, g1, g2, g3, g4, g5, g6, g7⟩ := h
  exact (g7 _ hk).1

/-- Fewer that stay. -/
theorem PSt.keepLess {A : Nat} {w : World} {σ : PS} {pr : List Value} (h : PSt A w σ pr) (ks : List (Nat × Array Value × Nat)) (hk : ∀ p ∈ ks, p ∈ σ.kept) : PSt A w { σ with kept := ks } pr := by
  obtain ⟨ad, bv, pv, hA, g1, g2, g3, g4, g5, g6, g7⟩ := h
  exact ⟨ad, bv, pv, hA, g1, g2, g3, g4, g5, g6, fun p hp => g7 p (hk p hp)⟩

theorem PSt.cLast {A : Nat} {w : World} {σ : PS} {pr : List Value} (h : PSt A w σ pr) : w.cell? ⟨A, 7, none⟩ = some (.int .u8 σ.last) := by obtain ⟨ad, bv, pv, hA, _⟩ := h; simp [World.cell?, hA]
theorem PSt.cScopes {A : Nat} {w : World} {σ : PS} {pr : List Value} (h : PSt A w σ pr) : w.cell? ⟨A, 4, none⟩ = some (.int .i64 σ.scopes) := by obtain ⟨ad, bv, pv, hA, _⟩ := h; simp [World.cell?, hA]
theorem PSt.cMax {A : Nat} {w : World} {σ : PS} {pr : List Value} (h : PSt A w σ pr) : w.cell? ⟨A, 3, none⟩ = some (.int .i64 0) := by obtain ⟨ad, bv, pv, hA, _⟩ := h; simp [World.cell?, hA]
theorem PSt.cLlvm {A : Nat} {w : World} {σ : PS} {pr : List Value} (h : PSt A w σ pr) : w.cell? ⟨A, 2, none⟩ = some (.bool σ.llvm) := by obtain ⟨ad, bv, pv, hA, _⟩ := h; simp [World.cell?, hA]
theorem PSt.cEp {A : Nat} {w : World} {σ : PS} {pr : List Value} (h : PSt A w σ pr) : w.cell? ⟨A, 1, none⟩ = some (.bool σ.ep) := by obtain ⟨ad, bv, pv, hA, _⟩ := h; simp [World.cell?, hA]
theorem PSt.cTp {A : Nat} {w : World} {σ : PS} {pr : List Value} (h : PSt A w σ pr) : w.cell? ⟨A, 0, none⟩ = some (.bool σ.tp) := by obtain ⟨ad, bv, pv, hA, _⟩ := h; simp [World.cell?, hA]
theorem PSt.cInner {A : Nat} {w : World} {σ : PS} {pr : List Value} (h : PSt A w σ pr) : w.cell? ⟨A, 8, none⟩ = some σ.iv := by obtain ⟨ad, bv, pv, hA, _⟩ := h; simp [World.cell?, hA]

theorem PSt.drew {A : Nat} {w : World} {σ : PS} {pr : List Value} (h : PSt A w σ pr) : PSt A w.drew σ pr := h
theorem PSt.drewN {A : Nat} {w : World} {σ : PS} {pr : List Value} (h : PSt A w σ pr) (n : Nat) : PSt A (w.drewN n) σ pr := h

theorem Tryz.sizeBuilder : (Tryz.prog.info? 57).map (fun i => i.size) = some 2 := by kernel_rfl
theorem Tryz.liesBuilder : liesAt Tryz.prog Tryz.prog.depth 59 (10 / Tryz.prog.cellsOf 59) 5 57 1 = true := by kernel_rfl
theorem callNoEscape (x : Value) (w : World) : (callFunc 44 #[x]).run Tryz.prog w = .ok (.value x) w := by kernel_rfl

set_option maxHeartbeats 1000000 in
theorem check_any (A : Nat) (w : World) (σ : PS) (pr : List Value) (h : PSt A w σ pr) :
    Calls Tryz.prog 43 #[.pointer (some ⟨A, 5, none⟩)] w fun e w' => e = .returned (.tuple #[]) ∧ PSt A w' σ pr ∧ Below A w w' ∧ w.heap.size = w'.heap.size := by
  have hsh := h.shape
  have hf5 := h.free 5
  obtain ⟨ad, bv, pv, hA, h1, h2, h3, h4, h5, h6, h7⟩ := h
  have c5 : w.cell? ⟨A, 5, none⟩ = some ad := by simp [World.cell?, hA]
  obtain ⟨j, hj, hjs⟩ := Option.map_eq_some_iff.1 Tryz.sizeBuilder
  have HA := Lib.hid hA
  clear hA
  rcases h1 with rfl | rfl
  · have e1 := Lib.run_to_unsafe (P := Tryz.prog) w ⟨A, 5, none⟩ Tryz.underlying54 Tryz.underlying91 hj (by rw [hjs]; decide) hsh (by show 5 < 10; decide)
    have e2 := Lib.run_from_unsafe (P := Tryz.prog) w ⟨A, 5, none⟩ Tryz.underlying91 Tryz.underlying54 hj hsh Tryz.liesBuilder
    have e3 := callNoEscape
    go_enter Tryz.func43, Tryz.ntmps43
    go_wp2_with fail
    go_end0
    exact ⟨rfl, ⟨_, bv, pv, by simpa using heap_setCell_same w A 5 _ _ (.pointer (some ⟨A, 5, none⟩)) HA.out, .inr rfl, own_store h2 _ _, h3, own_store h4 _ _, own_store h5 _ _, h6, h7.store HA.out _ _⟩,
      (Below.refl _ _).setCell (p := ⟨A, 5, none⟩) (Nat.le_refl A) _, by simp [World.setCell]⟩
  · have e1 := Lib.run_neq_ptr_same (P := Tryz.prog) w ⟨A, 5, none⟩ Tryz.underlying54 hj
    go_enter Tryz.func43, Tryz.ntmps43
    go_wp2_with fail
    go_end0
    exact ⟨rfl, ⟨_, bv, pv, HA.out, .inr rfl, h2, h3, h4, h5, h6, h7⟩, Below.refl _ _, rfl⟩

/-- The bytes grow: a new buffer is laid into the struct. -/
theorem PSt.grow {A : Nat} {w w1 : World} {σ : PS} {pr : List Value} {ad bv pv v' : Value} {more : List UInt8} {row : Option Nat}
    (hA : w.heap[A]? = some (.cells #[.bool σ.tp, .bool σ.ep, .bool σ.llvm, .int .i64 0, .int .i64 σ.scopes, ad, bv, .int .u8 σ.last, σ.iv, pv] 59 (0, 0)))
    (h1 : ad = .pointer none ∨ ad = .pointer (some ⟨A, 5, none⟩)) (h2 : w.ownsRow (A + 1) 5 1 bv σ.out.length (Lib.byteCells σ.out))
    (h4 : w.ownsRow (A + 1) 36 1 σ.iv σ.inner.length σ.inner) (h5 : w.ownsRow (A + 1) 36 1 pv pr.length pr) (h6 : ∀ g, σ.iv.ownBlock = some g → pv.ownBlock ≠ some g) (h7 : Kept w σ.kept)
    (hown : w1.ownsRow (A + 1) 5 1 v' (σ.out.length + more.length) (Lib.byteCells σ.out ++ Lib.byteCells more)) (hg : w.grownBy w1 row) (hrow : row = bv.ownBlock) (hnil : σ.out ++ more = [] → v' = .slice none 0 0) :
    (∃ a n c, v' = .slice a n c) ∧ w1.cell? ⟨A, 6, none⟩ = some bv ∧ w1.frozen? ⟨A, 6, none⟩ = false ∧ PSt A (w1.setCell ⟨A, 6, none⟩ v') { σ with out := σ.out ++ more } pr ∧ Below A w (w1.setCell ⟨A, 6, none⟩ v') := by
  subst hrow
  have hne : some A ≠ bv.ownBlock := fun e => by have := (h2.lt A e.symm).1; omega
  have hA1 : w1.heap[A]? = some (.cells #[.bool σ.tp, .bool σ.ep, .bool σ.llvm, .int .i64 0, .int .i64 σ.scopes, ad, bv, .int .u8 σ.last, σ.iv, pv] 59 (0, 0)) := by
    rw [hg.block A (lt_of_block hA) hne, hA]
  refine ⟨?_, by simp [World.cell?, hA1], Lib.frozen_of_heap hA1 6, ⟨ad, v', pv, by simpa using heap_setCell_same w1 A 6 _ _ v' hA1, h1, ?_, hnil, ?_, ?_, h6, (h7.grown h2 (.inl rfl) hg).store hA1 _ _⟩, ?_⟩
  · rcases hown.2 with ⟨e, _⟩ | ⟨g, cap, cur, e, _⟩
    · exact ⟨_, _, _, e⟩
    · exact ⟨_, _, _, e⟩
  · have := own_store hown 6 v'
    rw [Lib.byteCells_append]
    simpa using this
  · exact own_store (h4.kept hg (rows_apart h4 h2 (by decide))) _ _
  · exact own_store (h5.kept hg (rows_apart h5 h2 (by decide))) _ _
  · exact ((Below.refl A w).grown hg (Nat.le_of_lt (lt_of_block hA)) (fun k hk => by have := (h2.lt k hk).1; omega)).setCell (p := ⟨A, 6, none⟩) (Nat.le_refl A) _

set_option maxHeartbeats 1000000 in
theorem bWriteByte_any (A : Nat) (w : World) (σ : PS) (pr : List Value) (b : UInt8) (c : Int) (hc : c = (b.toNat : Int)) (h : PSt A w σ pr) (hl : σ.out.length + 1 ≤ 140737488355328) :
    Calls Tryz.prog 42 #[.pointer (some ⟨A, 5, none⟩), .int .u8 c] w fun e w' => e = .returned .nilIface ∧ PSt A w' { σ with out := σ.out ++ [b] } pr ∧ Below A w w' := by
  obtain ⟨i0, hi, hz0, hz1, hz2⟩ := info_parts Tryz.infoByte
  have HC := Lib.hid hc
  clear hc
  go_enter Tryz.func42, Tryz.ntmps42
  go_wp2_with fail
  refine (check_any A w σ pr h).mono ?_
  rintro e w1 ⟨rfl, hp, hb, hsz⟩
  obtain ⟨ad, bv, pv, hA, h1, h2, h3, h4, h5, h6, h7⟩ := hp
  have c6 : w1.cell? ⟨A, 6, none⟩ = some bv := by simp [World.cell?, hA]
  have hlt := lt_of_block hA
  clear hsz
  go_wp2_with (at_builtin; refine wpList_append_own _ rfl _ _ 55 rfl (A + 1) 5 i0 (.int .u8 0) 1 1 Tryz.underlying55 hi hz0 hz1 hz2 rfl (by decide) _ _ _ rfl (h2.alloc _) ⟨w1.heap.size, 0, none⟩ 1 1 [.int .u8 c] rfl rfl (cell_one_new _ _ _) (by simp [Value.oneCell']) ?c3 (by omega) (by simp; omega) ?_)
  case c3 => unfold maxLen; omega
  intro v' w2 hown hg _
  have hg' : w1.grownBy w2 bv.ownBlock := ⟨hg.os, hg.tape, hg.output, by have := hg.size; simp at this; omega, fun k hk hne => by rw [hg.block k (by simp; omega) hne, Below.heap_alloc _ _ _ hk]⟩
  obtain ⟨⟨a2, n2, c2, rfl⟩, k1, k2, k3, k4⟩ := PSt.grow (more := [b]) hA h1 h2 h4 h5 h6 h7 (by simpa [Lib.byteCells, HC.out] using hown) hg' rfl (by simp)
  clear hown hg hg' c6 hA h2 h4 h5
  go_wp2_with fail
  go_ret
  exact ⟨rfl, k3, hb.trans k4⟩

set_option maxHeartbeats 1000000 in
theorem bWriteString_any (A : Nat) (w : World) (σ : PS) (pr : List Value) (s : ByteArray) (h : PSt A w σ pr) (hl : σ.out.length + s.size ≤ 140737488355328) :
    Calls Tryz.prog 55 #[.pointer (some ⟨A, 5, none⟩), .string s] w fun e w' => e = .returned (.tuple #[.int .i64 s.size, .nilIface]) ∧ PSt A w' { σ with out := σ.out ++ s.data.toList } pr ∧ Below A w w' := by
  obtain ⟨i0, hi, hz0, hz1, hz2⟩ := info_parts Tryz.infoByte
  go_enter Tryz.func55, Tryz.ntmps55
  go_wp2_with fail
  refine (check_any A w σ pr h).mono ?_
  rintro e w1 ⟨rfl, hp, hb, hsz⟩
  obtain ⟨ad, bv, pv, hA, h1, h2, h3, h4, h5, h6, h7⟩ := hp
  have c6 : w1.cell? ⟨A, 6, none⟩ = some bv := by simp [World.cell?, hA]
  have hlt := lt_of_block hA
  clear hsz
  go_wp2_with (at_builtin; refine Lib.wpList_append_own_string _ rfl _ _ 55 9 rfl (A + 1) 5 i0 Tryz.underlying55 Tryz.underlying9 hi hz0 hz1 hz2 _ _ _ rfl h2 s rfl ?c3 hl (by omega) ?_)
  case c3 => unfold maxLen; omega
  intro v' w2 hown hg hiff
  have hs : s.data.toList.length = s.size := by rw [Array.length_toList]; rfl
  have hemp : s.data.toList = [] → s = ByteArray.empty := fun e => by
    have h0 : s.size = 0 := by rw [← hs, e]; rfl
    simpa using h0
  obtain ⟨⟨a2, n2, c2, rfl⟩, k1, k2, k3, k4⟩ := PSt.grow (more := s.data.toList) hA h1 h2 h4 h5 h6 h7 (by rw [hs, ← Lib.strCells_eq]; exact hown) hg rfl (fun e => hiff.2 ⟨h3 (List.append_eq_nil_iff.1 e).1, hemp (List.append_eq_nil_iff.1 e).2⟩)
  clear hown hg hiff c6 hA h2 h4 h5 hs hemp
  go_wp2_with fail
  go_ret2
  exact ⟨rfl, k3, hb.trans k4⟩

/-- The state behind a byte, behind a text. -/
def PS.byte (σ : PS) (b : UInt8) : PS := { σ with out := σ.out ++ [b], last := (b.toNat : Int) }
def PS.text (σ : PS) (s : List UInt8) : PS := { σ with out := σ.out ++ s, last := match s.getLast? with | none => σ.last | some b => (b.toNat : Int) }

set_option maxHeartbeats 1000000 in
theorem writeByte_any (A : Nat) (w : World) (σ : PS) (pr : List Value) (b : UInt8) (c : Int) (hc : c = (b.toNat : Int)) (h : PSt A w σ pr) (hl : σ.out.length + 1 ≤ 140737488355328) :
    Calls Tryz.prog 40 #[.pointer (some ⟨A, 0, none⟩), .int .u8 c] w fun e w' => e = .returned (.tuple #[]) ∧ PSt A w' (σ.byte b) pr ∧ Below A w w' := by
  have c7 := h.cLast
  have f7 := h.free 7
  have HC := Lib.hid hc
  clear hc
  go_enter Tryz.func40, Tryz.ntmps40
  go_wp2_with fail
  refine (bWriteByte_any A _ _ pr b c HC.out (h.last c) hl).mono ?_
  rintro e w1 ⟨rfl, hp, hb⟩
  go_wp2_with fail
  go_end0
  refine ⟨rfl, ?_, ((Below.refl A w).setCell (p := ⟨A, 7, none⟩) (Nat.le_refl A) _).trans hb⟩
  have := HC.out
  subst this
  exact hp

theorem getLast_at (s : ByteArray) (h : 0 < s.size) : s.data.toList.getLast? = some s[s.size - 1] := by
  rw [List.getLast?_eq_getElem?, Array.length_toList]
  have h' : s.data.size - 1 < s.data.size := by show s.size - 1 < s.size; omega
  rw [Array.getElem?_toList, Array.getElem?_eq_getElem h']
  rfl

set_option maxHeartbeats 1000000 in
theorem writeString_any (A : Nat) (w : World) (σ : PS) (pr : List Value) (s : ByteArray) (h : PSt A w σ pr) (hl : σ.out.length + s.size ≤ 140737488355328) :
    Calls Tryz.prog 53 #[.pointer (some ⟨A, 0, none⟩), .string s] w fun e w' => e = .returned (.tuple #[]) ∧ PSt A w' (σ.text s.data.toList) pr ∧ Below A w w' := by
  have c7 := h.cLast
  have f7 := h.free 7
  have hs : s.data.toList.length = s.size := by rw [Array.length_toList]; rfl
  by_cases h0 : 0 < s.size
  · have HB := Lib.hid (getLast_at s h0)
    clear hs
    go_enter Tryz.func53, Tryz.ntmps53
    go_wp2_with fail
    refine (bWriteString_any A _ _ pr s (h.last (s[s.size - 1].toNat : Int)) hl).mono ?_
    rintro e w1 ⟨rfl, hp, hb⟩
    go_wp2_with fail
    go_end0
    refine ⟨rfl, ?_, ((Below.refl A w).setCell (p := ⟨A, 7, none⟩) (Nat.le_refl A) _).trans hb⟩
    unfold PS.text
    rw [HB.out]
    exact hp
  · have e0 : s.data.toList = [] := List.eq_nil_of_length_eq_zero (by omega)
    have E0 := Lib.hid e0
    clear e0 hs
    go_enter Tryz.func53, Tryz.ntmps53
    go_wp2_with fail
    refine (bWriteString_any A _ _ pr s h hl).mono ?_
    rintro e w1 ⟨rfl, hp, hb⟩
    go_wp2_with fail
    go_end0
    refine ⟨rfl, ?_, hb⟩
    unfold PS.text
    rw [E0.out] at hp ⊢
    exact hp

def PS.scope (σ : PS) (n : Int) : PS := { σ with scopes := n }

set_option maxHeartbeats 1000000 in
theorem startScope_any (A : Nat) (w : World) (σ : PS) (pr : List Value) (b : UInt8) (c : Int) (hc : c = (b.toNat : Int)) (h : PSt A w σ pr) (hl : σ.out.length + 1 ≤ 140737488355328) (h0 : -1000000 ≤ σ.scopes) (h1 : σ.scopes ≤ 1000000) :
    Calls Tryz.prog 49 #[.pointer (some ⟨A, 0, none⟩), .int .u8 c] w fun e w' => e = .returned (.tuple #[]) ∧ PSt A w' ((σ.scope (σ.scopes + 1)).byte b) pr ∧ Below A w w' := by
  have c4 := h.cScopes
  have f4 := h.free 4
  have HC := Lib.hid hc
  clear hc
  go_enter Tryz.func49, Tryz.ntmps49
  go_wp2_with fail
  refine (writeByte_any A _ _ pr b c HC.out (h.scope (σ.scopes + 1)) hl).mono ?_
  rintro e w1 ⟨rfl, hp, hb⟩
  go_wp2_with fail
  go_end0
  exact ⟨rfl, hp, ((Below.refl A w).setCell (p := ⟨A, 4, none⟩) (Nat.le_refl A) _).trans hb⟩

set_option maxHeartbeats 1000000 in
theorem endScope_any (A : Nat) (w : World) (σ : PS) (pr : List Value) (b : UInt8) (c : Int) (hc : c = (b.toNat : Int)) (h : PSt A w σ pr) (hl : σ.out.length + 1 ≤ 140737488355328) (h0 : -1000000 ≤ σ.scopes) (h1 : σ.scopes ≤ 1000000) :
    Calls Tryz.prog 51 #[.pointer (some ⟨A, 0, none⟩), .int .u8 c] w fun e w' => e = .returned (.tuple #[]) ∧ PSt A w' ((σ.scope (σ.scopes - 1)).byte b) pr ∧ Below A w w' := by
  have c4 := h.cScopes
  have f4 := h.free 4
  have HC := Lib.hid hc
  clear hc
  go_enter Tryz.func51, Tryz.ntmps51
  go_wp2_with fail
  refine (writeByte_any A _ _ pr b c HC.out (h.scope (σ.scopes - 1)) hl).mono ?_
  rintro e w1 ⟨rfl, hp, hb⟩
  go_wp2_with fail
  go_end0
  exact ⟨rfl, hp, ((Below.refl A w).setCell (p := ⟨A, 4, none⟩) (Nat.le_refl A) _).trans hb⟩

end Go.Proofs.YtjemnnfnocmjlaaGreat

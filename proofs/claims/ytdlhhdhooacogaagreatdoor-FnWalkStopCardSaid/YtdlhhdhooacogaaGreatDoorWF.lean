/-
  A node opened: its kids' cells.
-/
import Derived.Test.YtdlhhdhooacogaaGreatDoorWD
namespace Go.Proofs.YtdlhhdhooacogaaGreatDoor
open Go.RowKit

/-- How deep a tree is, at most. -/
def Dep : Nat → NT → Prop
  | 0, _ => False
  | d + 1, .mk _ _ _ kids => ∀ k ∈ kids, Dep d k

/-- The four cells from o on in block b hold the kid k. -/
structure KidAt (w : World) (b o : Nat) (k : NT) (kd tx : ByteArray) (nm : Int) (a : Option Addr) (n cap : Nat) : Prop where
  nv : NV w [.string kd, .string tx, .int .i64 nm, .slice a n cap] k
  lt : b < w.heap.size
  c0 : w.cell? ⟨b, o, none⟩ = some (.string kd)
  c1 : w.cell? ⟨b, o + 1, none⟩ = some (.string tx)
  c2 : w.cell? ⟨b, o + 2, none⟩ = some (.int .i64 nm)
  c3 : w.cell? ⟨b, o + 3, none⟩ = some (.slice a n cap)

theorem KidAt.keep {w w' : World} {b o : Nat} {k : NT} {kd tx : ByteArray} {nm : Int} {a : Option Addr} {n cap : Nat} (h : KidAt w b o k kd tx nm a n cap) (hb : Below w.heap.size w w') : KidAt w' b o k kd tx nm a n cap :=
  ⟨h.nv.keep hb, by have := hb.size; have := h.lt; omega, by rw [hb.cell (p := ⟨b, o, none⟩) h.lt]; exact h.c0, by rw [hb.cell (p := ⟨b, o + 1, none⟩) h.lt]; exact h.c1, by rw [hb.cell (p := ⟨b, o + 2, none⟩) h.lt]; exact h.c2, by rw [hb.cell (p := ⟨b, o + 3, none⟩) h.lt]; exact h.c3⟩

/-- The row a holds the kids. -/
def Kids (w : World) (a : Option Addr) (kids : List NT) : Prop :=
  kids = [] ∨ ∃ b off, a = some ⟨b, off, none⟩ ∧ ∀ i k, kids[i]? = some k → ∃ kd tx nm a' n' cap', KidAt w b (off + i * 4) k kd tx nm a' n' cap'

theorem Kids.keep {w w' : World} {a : Option Addr} {kids : List NT} (h : Kids w a kids) (hb : Below w.heap.size w w') : Kids w' a kids := by
  rcases h with h | ⟨b, off, e, h⟩
  · exact .inl h
  · exact .inr ⟨b, off, e, fun i k hi => by obtain ⟨kd, tx, nm, a', n', cap', h⟩ := h i k hi; exact ⟨_, _, _, _, _, _, h.keep hb⟩⟩

theorem NV.opened {w : World} {cs : List Value} {t : NT} (h : NV w cs t) : ∃ kind text num a n cap kids, cs = [.string kind, .string text, .int .i64 num, .slice a n cap] ∧ t = .mk kind text num kids ∧
    kind.size ≤ maxLen ∧ text.size ≤ maxLen ∧ n = kids.length ∧ n ≤ maxLen ∧ Kids w a kids ∧ n ≤ cap := by
  cases h with
  | mk kind text num a n cap kids css h1 h2 h3 hl hm hcap ha hk =>
    refine ⟨kind, text, num, a, n, cap, kids, rfl, rfl, h1, h2, hl.symm, hm, ?_, hcap⟩
    cases kids with
    | nil => exact .inl rfl
    | cons k0 ks =>
      simp at hl
      obtain ⟨b, off, e, hlt, hc⟩ := ha (by omega)
      refine .inr ⟨b, off, e, fun i k hi => ?_⟩
      have hi' := List.getElem?_eq_some_iff.1 hi
      obtain ⟨hil, hik⟩ := hi'
      simp at hil
      have hnv := hk i (by omega)
      have e2 : (k0 :: ks).getD i default = k := by simp only [List.getD, hi, Option.getD_some]
      rw [e2] at hnv
      obtain ⟨kd, tx, nm, a', n', cap', ecs⟩ := hnv.four
      have g := fun j hj => hc i (by omega) j hj
      rw [ecs] at hnv
      exact ⟨kd, tx, nm, a', n', cap', hnv, hlt, by have := g 0 (by decide); rw [ecs] at this; exact this, by have := g 1 (by decide); rw [ecs] at this; exact this,
        by have := g 2 (by decide); rw [ecs] at this; exact this, by have := g 3 (by decide); rw [ecs] at this; exact this⟩

theorem Kids.one {w : World} {a : Option Addr} {k0 : NT} {ks : List NT} (h : Kids w a (k0 :: ks)) : ∃ b off kd tx nm a' n' cap', a = some ⟨b, off, none⟩ ∧ KidAt w b off k0 kd tx nm a' n' cap' := by
  rcases h with h | ⟨b, off, e, h⟩
  · cases h
  · obtain ⟨kd, tx, nm, a', n', cap', h0⟩ := h 0 k0 rfl
    exact ⟨b, off, kd, tx, nm, a', n', cap', e, by simpa using h0⟩

theorem Kids.two {w : World} {a : Option Addr} {k0 k1 : NT} {ks : List NT} (h : Kids w a (k0 :: k1 :: ks)) : ∃ b off kd tx nm a' n' cap' kd1 tx1 nm1 a1 n1 cap1, a = some ⟨b, off, none⟩ ∧ KidAt w b off k0 kd tx nm a' n' cap' ∧ KidAt w b (off + 4) k1 kd1 tx1 nm1 a1 n1 cap1 := by
  rcases h with h | ⟨b, off, e, h⟩
  · cases h
  · obtain ⟨kd, tx, nm, a', n', cap', h0⟩ := h 0 k0 rfl
    obtain ⟨kd1, tx1, nm1, a1, n1, cap1, h1⟩ := h 1 k1 rfl
    exact ⟨b, off, kd, tx, nm, a', n', cap', kd1, tx1, nm1, a1, n1, cap1, e, by simpa using h0, by simpa using h1⟩

theorem bt (b : Bool) : b = true ∨ b = false := by cases b <;> simp

theorem eq_list {s : ByteArray} {l : List UInt8} (h : (s.toList == l) = true) : s = ⟨l.toArray⟩ := by
  have := eq_of_beq h
  rw [ByteArray.toList_eq] at this
  exact ByteArray.ext (by rw [← this])

/-- The returned bool: closes a weak contract's end. -/
theorem SaysIf.any {w w' : World} {b : Bool} (h : Below w.heap.size w w') : SaysIf True w (.returned (.bool b)) w' := ⟨b, rfl, fun _ => trivial, h⟩
theorem SaysIf.no {P : Prop} {w w' : World} (h : Below w.heap.size w w') : SaysIf P w (.returned (.bool false)) w' := ⟨false, rfl, fun h => by simp at h, h⟩
theorem SaysIf.yes {P : Prop} {w w' : World} {b : Bool} (hp : P) (h : Below w.heap.size w w') : SaysIf P w (.returned (.bool b)) w' := ⟨b, rfl, fun _ => hp, h⟩

theorem below_new (w : World) (o : Obj) : Below w.heap.size w (w.alloc o) := (Below.refl _ _).alloc (Nat.le_refl _) _
theorem behind {w w1 w2 : World} (h : Below w.heap.size w w1) (h2 : Below w1.heap.size w1 w2) : Below w.heap.size w w2 := h.trans (h2.mono h.size)

set_option maxHeartbeats 1000000 in
theorem plain_any (kind text : ByteArray) (num : Int) (a : Option Addr) (n cap : Nat) (k : Nat) (w : World) :
    Calls Tryz.prog 17 #[.agg #[.string kind, .string text, .int .i64 num, .slice a n cap], .int .i64 k] w (SaysIf (n = k) w) := by
  rcases bt text.toList.isEmpty with q | q
  · by_cases h0 : num = 0
    · subst h0
      go_enter Tryz.func17, Tryz.ntmps17
      go_wp2_with fail
      go_ret
      exact ⟨_, rfl, fun h => by simp at h; omega, below_new _ _⟩
    · have q0 : (num == 0) = false := by simpa using h0
      go_enter Tryz.func17, Tryz.ntmps17
      go_wp2_with fail
      go_ret
      exact .no (below_new _ _)
  · go_enter Tryz.func17, Tryz.ntmps17
    go_wp2_with fail
    go_ret
    exact .no (below_new _ _)

/-- What a recursive predicate's contract says of trees of depth d. -/
def Weak (f : FuncId) (P : NT → Prop) (d : Nat) : Prop := ∀ (t : NT) (kind text : ByteArray) (num : Int) (a : Option Addr) (n cap : Nat) (w : World), NV w [.string kind, .string text, .int .i64 num, .slice a n cap] t → Dep d t →
  Calls Tryz.prog f #[.agg #[.string kind, .string text, .int .i64 num, .slice a n cap]] w (SaysIf (P t) w)

set_option maxHeartbeats 4000000 in
theorem turned_any (d : Nat) : Weak 22 (fun _ => True) d := by
  induction d with
  | zero => intro t kind text num a n cap w h hd; exact absurd hd id
  | succ d ih =>
    intro t kind text num a n cap w h hd
    obtain ⟨_, _, _, _, _, _, kids, e, rfl, h1, h2, hn, hm, hk, _⟩ := h.opened
    simp at e
    obtain ⟨rfl, rfl, rfl, rfl, rfl, rfl⟩ := e
    unfold maxLen at h1 h2 hm
    have IH := Lib.hid ih
    have HD := Lib.hid (show ∀ k ∈ kids, Dep d k from hd)
    clear ih hd h
    rcases bt (kind.toList == [70, 117, 110, 99, 116, 105, 111, 110, 84, 121, 112, 101]) with qFunctionType | qFunctionType
    · go_enter Tryz.func22, Tryz.ntmps22
      go_wp2_with fail
      go_ret
      exact .any (below_new _ _)
    rcases bt (kind.toList == [65, 114, 114, 97, 121, 84, 121, 112, 101]) with qArrayType | qArrayType
    · go_enter Tryz.func22, Tryz.ntmps22
      go_wp2_with fail
      go_ret
      exact .any (below_new _ _)
    rcases bt (kind.toList == [77, 101, 116, 104, 111, 100, 87, 105, 116, 104, 81, 117, 97, 108, 105, 102, 105, 101, 114, 115]) with qMethodWithQualifiers | qMethodWithQualifiers
    · go_enter Tryz.func22, Tryz.ntmps22
      go_wp2_with fail
      go_ret
      exact .any (below_new _ _)
    rcases bt (kind.toList == [80, 111, 105, 110, 116, 101, 114, 84, 121, 112, 101]) with qPointerType | qPointerType
    · cases kids with
      | nil =>
        simp at hn
        subst hn
        clear hk
        go_enter Tryz.func22, Tryz.ntmps22
        go_wp2_with fail
        go_ret
        exact .any (below_new _ _)
      | cons k0 ks =>
        obtain ⟨b, off, kd, tx, nm, a', n', cap', rfl, hk0⟩ := hk.one
        have hn0 : 0 < n := by simp at hn; omega
        clear hn
        have HC := Lib.hid (IH.out k0 kd tx nm a' n' cap' _ (hk0.keep (below_new w (.cells #[.string kind, .string text, .int .i64 num, .slice (some ⟨b, off, none⟩) n cap] 24))).nv (HD.out k0 (by simp)))
        obtain ⟨_, _, g0, g1, g2, g3⟩ := hk0.keep (below_new w (.cells #[.string kind, .string text, .int .i64 num, .slice (some ⟨b, off, none⟩) n cap] 24))
        clear hk hk0
        go_enter Tryz.func22, Tryz.ntmps22
        go_wp2_with fail
        refine HC.out.mono ?_
        rintro e w1 ⟨bb, rfl, _, hb⟩
        go_wp2_with fail
        go_ret
        exact .any (behind (below_new _ _) hb)
    rcases bt (kind.toList == [82, 101, 102, 101, 114, 101, 110, 99, 101, 84, 121, 112, 101]) with qReferenceType | qReferenceType
    · cases kids with
      | nil =>
        simp at hn
        subst hn
        clear hk
        go_enter Tryz.func22, Tryz.ntmps22
        go_wp2_with fail
        go_ret
        exact .any (below_new _ _)
      | cons k0 ks =>
        obtain ⟨b, off, kd, tx, nm, a', n', cap', rfl, hk0⟩ := hk.one
        have hn0 : 0 < n := by simp at hn; omega
        clear hn
        have HC := Lib.hid (IH.out k0 kd tx nm a' n' cap' _ (hk0.keep (below_new w (.cells #[.string kind, .string text, .int .i64 num, .slice (some ⟨b, off, none⟩) n cap] 24))).nv (HD.out k0 (by simp)))
        obtain ⟨_, _, g0, g1, g2, g3⟩ := hk0.keep (below_new w (.cells #[.string kind, .string text, .int .i64 num, .slice (some ⟨b, off, none⟩) n cap] 24))
        clear hk hk0
        go_enter Tryz.func22, Tryz.ntmps22
        go_wp2_with fail
        refine HC.out.mono ?_
        rintro e w1 ⟨bb, rfl, _, hb⟩
        go_wp2_with fail
        go_ret
        exact .any (behind (below_new _ _) hb)
    rcases bt (kind.toList == [82, 118, 97, 108, 117, 101, 82, 101, 102, 101, 114, 101, 110, 99, 101, 84, 121, 112, 101]) with qRvalueReferenceType | qRvalueReferenceType
    · cases kids with
      | nil =>
        simp at hn
        subst hn
        clear hk
        go_enter Tryz.func22, Tryz.ntmps22
        go_wp2_with fail
        go_ret
        exact .any (below_new _ _)
      | cons k0 ks =>
        obtain ⟨b, off, kd, tx, nm, a', n', cap', rfl, hk0⟩ := hk.one
        have hn0 : 0 < n := by simp at hn; omega
        clear hn
        have HC := Lib.hid (IH.out k0 kd tx nm a' n' cap' _ (hk0.keep (below_new w (.cells #[.string kind, .string text, .int .i64 num, .slice (some ⟨b, off, none⟩) n cap] 24))).nv (HD.out k0 (by simp)))
        obtain ⟨_, _, g0, g1, g2, g3⟩ := hk0.keep (below_new w (.cells #[.string kind, .string text, .int .i64 num, .slice (some ⟨b, off, none⟩) n cap] 24))
        clear hk hk0
        go_enter Tryz.func22, Tryz.ntmps22
        go_wp2_with fail
        refine HC.out.mono ?_
        rintro e w1 ⟨bb, rfl, _, hb⟩
        go_wp2_with fail
        go_ret
        exact .any (behind (below_new _ _) hb)
    rcases bt (kind.toList == [84, 121, 112, 101, 87, 105, 116, 104, 81, 117, 97, 108, 105, 102, 105, 101, 114, 115]) with qTypeWithQualifiers | qTypeWithQualifiers
    · cases kids with
      | nil =>
        simp at hn
        subst hn
        clear hk
        go_enter Tryz.func22, Tryz.ntmps22
        go_wp2_with fail
        go_ret
        exact .any (below_new _ _)
      | cons k0 ks =>
        obtain ⟨b, off, kd, tx, nm, a', n', cap', rfl, hk0⟩ := hk.one
        have hn0 : 0 < n := by simp at hn; omega
        clear hn
        have HC := Lib.hid (IH.out k0 kd tx nm a' n' cap' _ (hk0.keep (below_new w (.cells #[.string kind, .string text, .int .i64 num, .slice (some ⟨b, off, none⟩) n cap] 24))).nv (HD.out k0 (by simp)))
        obtain ⟨_, _, g0, g1, g2, g3⟩ := hk0.keep (below_new w (.cells #[.string kind, .string text, .int .i64 num, .slice (some ⟨b, off, none⟩) n cap] 24))
        clear hk hk0
        go_enter Tryz.func22, Tryz.ntmps22
        go_wp2_with fail
        refine HC.out.mono ?_
        rintro e w1 ⟨bb, rfl, _, hb⟩
        go_wp2_with fail
        go_ret
        exact .any (behind (below_new _ _) hb)
    rcases bt (kind.toList == [67, 111, 109, 112, 108, 101, 120, 84, 121, 112, 101]) with qComplexType | qComplexType
    · cases kids with
      | nil =>
        simp at hn
        subst hn
        clear hk
        go_enter Tryz.func22, Tryz.ntmps22
        go_wp2_with fail
        go_ret
        exact .any (below_new _ _)
      | cons k0 ks =>
        obtain ⟨b, off, kd, tx, nm, a', n', cap', rfl, hk0⟩ := hk.one
        have hn0 : 0 < n := by simp at hn; omega
        clear hn
        have HC := Lib.hid (IH.out k0 kd tx nm a' n' cap' _ (hk0.keep (below_new w (.cells #[.string kind, .string text, .int .i64 num, .slice (some ⟨b, off, none⟩) n cap] 24))).nv (HD.out k0 (by simp)))
        obtain ⟨_, _, g0, g1, g2, g3⟩ := hk0.keep (below_new w (.cells #[.string kind, .string text, .int .i64 num, .slice (some ⟨b, off, none⟩) n cap] 24))
        clear hk hk0
        go_enter Tryz.func22, Tryz.ntmps22
        go_wp2_with fail
        refine HC.out.mono ?_
        rintro e w1 ⟨bb, rfl, _, hb⟩
        go_wp2_with fail
        go_ret
        exact .any (behind (below_new _ _) hb)
    rcases bt (kind.toList == [73, 109, 97, 103, 105, 110, 97, 114, 121, 84, 121, 112, 101]) with qImaginaryType | qImaginaryType
    · cases kids with
      | nil =>
        simp at hn
        subst hn
        clear hk
        go_enter Tryz.func22, Tryz.ntmps22
        go_wp2_with fail
        go_ret
        exact .any (below_new _ _)
      | cons k0 ks =>
        obtain ⟨b, off, kd, tx, nm, a', n', cap', rfl, hk0⟩ := hk.one
        have hn0 : 0 < n := by simp at hn; omega
        clear hn
        have HC := Lib.hid (IH.out k0 kd tx nm a' n' cap' _ (hk0.keep (below_new w (.cells #[.string kind, .string text, .int .i64 num, .slice (some ⟨b, off, none⟩) n cap] 24))).nv (HD.out k0 (by simp)))
        obtain ⟨_, _, g0, g1, g2, g3⟩ := hk0.keep (below_new w (.cells #[.string kind, .string text, .int .i64 num, .slice (some ⟨b, off, none⟩) n cap] 24))
        clear hk hk0
        go_enter Tryz.func22, Tryz.ntmps22
        go_wp2_with fail
        refine HC.out.mono ?_
        rintro e w1 ⟨bb, rfl, _, hb⟩
        go_wp2_with fail
        go_ret
        exact .any (behind (below_new _ _) hb)
    rcases bt (kind.toList == [80, 116, 114, 77, 101, 109]) with qPtrMem | qPtrMem
    · cases kids with
      | nil =>
        simp at hn
        subst hn
        clear hk
        go_enter Tryz.func22, Tryz.ntmps22
        go_wp2_with fail
        go_ret
        exact .any (below_new _ _)
      | cons k0 ks =>
        cases ks with
        | nil =>
          simp at hn
          subst hn
          clear hk
          go_enter Tryz.func22, Tryz.ntmps22
          go_wp2_with fail
          go_ret
          exact .any (below_new _ _)
        | cons k1 ks =>
          obtain ⟨b, off, _, _, _, _, _, _, kd, tx, nm, a', n', cap', rfl, _, hk0⟩ := hk.two
          have hn0 : 1 < n := by simp at hn; omega
          clear hn
          have HC := Lib.hid (IH.out k1 kd tx nm a' n' cap' _ (hk0.keep (below_new w (.cells #[.string kind, .string text, .int .i64 num, .slice (some ⟨b, off, none⟩) n cap] 24))).nv (HD.out k1 (by simp)))
          obtain ⟨_, _, g0, g1, g2, g3⟩ := hk0.keep (below_new w (.cells #[.string kind, .string text, .int .i64 num, .slice (some ⟨b, off, none⟩) n cap] 24))
          clear hk hk0
          go_enter Tryz.func22, Tryz.ntmps22
          go_wp2_with fail
          refine HC.out.mono ?_
          rintro e w1 ⟨bb, rfl, _, hb⟩
          go_wp2_with fail
          go_ret
          exact .any (behind (below_new _ _) hb)
    rcases bt (kind.toList == [86, 101, 110, 100, 111, 114, 81, 117, 97, 108, 105, 102, 105, 101, 114]) with qVendorQualifier | qVendorQualifier
    · cases kids with
      | nil =>
        simp at hn
        subst hn
        clear hk
        go_enter Tryz.func22, Tryz.ntmps22
        go_wp2_with fail
        go_ret
        exact .any (below_new _ _)
      | cons k0 ks =>
        cases ks with
        | nil =>
          simp at hn
          subst hn
          clear hk
          go_enter Tryz.func22, Tryz.ntmps22
          go_wp2_with fail
          go_ret
          exact .any (below_new _ _)
        | cons k1 ks =>
          obtain ⟨b, off, _, _, _, _, _, _, kd, tx, nm, a', n', cap', rfl, _, hk0⟩ := hk.two
          have hn0 : 1 < n := by simp at hn; omega
          clear hn
          have HC := Lib.hid (IH.out k1 kd tx nm a' n' cap' _ (hk0.keep (below_new w (.cells #[.string kind, .string text, .int .i64 num, .slice (some ⟨b, off, none⟩) n cap] 24))).nv (HD.out k1 (by simp)))
          obtain ⟨_, _, g0, g1, g2, g3⟩ := hk0.keep (below_new w (.cells #[.string kind, .string text, .int .i64 num, .slice (some ⟨b, off, none⟩) n cap] 24))
          clear hk hk0
          go_enter Tryz.func22, Tryz.ntmps22
          go_wp2_with fail
          refine HC.out.mono ?_
          rintro e w1 ⟨bb, rfl, _, hb⟩
          go_wp2_with fail
          go_ret
          exact .any (behind (below_new _ _) hb)
    go_enter Tryz.func22, Tryz.ntmps22
    go_wp2_with fail
    go_ret
    exact .any (below_new _ _)

end Go.Proofs.YtdlhhdhooacogaaGreatDoor

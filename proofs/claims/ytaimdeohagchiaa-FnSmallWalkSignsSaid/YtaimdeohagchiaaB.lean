/-
  Traverse over pointers and references: it hands each element to the function, the outer one first.
-/
import Derived.Test.YtaimdeohagchiaaA
import Derived.Lib.Hide
namespace Go.Proofs.Ytaimdeohagchiaa
open Go.RowKit

/-- The method Traverse of the type T is the function f. -/
structure Meth (T : TypeId) (f : FuncId) : Prop where
  m : ∀ (a : Addr) (w : World), (method 170 T (.pointer (some a)) "Traverse").run Try.prog w = .ok (f, .pointer (some a)) w
  c : ∀ (args : Array Value) (w : World), (callFunc f args).run Try.prog w = .ok (.enter f args) w

theorem m29 (a : Addr) (w : World) : (method 170 29 (.pointer (some a)) "Traverse").run Try.prog w = .ok (24, .pointer (some a)) w := by kernel_rfl
theorem c24 (args : Array Value) (w : World) : (callFunc 24 args).run Try.prog w = .ok (.enter 24 args) w := by kernel_rfl
theorem meth29 : Meth 29 24 := ⟨m29, c24⟩
theorem m30 (a : Addr) (w : World) : (method 170 30 (.pointer (some a)) "Traverse").run Try.prog w = .ok (27, .pointer (some a)) w := by kernel_rfl
theorem c27 (args : Array Value) (w : World) : (callFunc 27 args).run Try.prog w = .ok (.enter 27 args) w := by kernel_rfl
theorem meth30 : Meth 30 27 := ⟨m30, c27⟩
theorem m31 (a : Addr) (w : World) : (method 170 31 (.pointer (some a)) "Traverse").run Try.prog w = .ok (30, .pointer (some a)) w := by kernel_rfl
theorem c30 (args : Array Value) (w : World) : (callFunc 30 args).run Try.prog w = .ok (.enter 30 args) w := by kernel_rfl
theorem meth31 : Meth 31 30 := ⟨m31, c30⟩
theorem m38 (a : Addr) (w : World) : (method 170 38 (.pointer (some a)) "Traverse").run Try.prog w = .ok (33, .pointer (some a)) w := by kernel_rfl
theorem c33 (args : Array Value) (w : World) : (callFunc 33 args).run Try.prog w = .ok (.enter 33 args) w := by kernel_rfl
theorem meth38 : Meth 38 33 := ⟨m38, c33⟩

theorem St.cell {o b : Nat} {w0 w : World} {xs : List Int} {v : Value} (h : St o w0 w xs) (hb : b < w0.heap.size) (hbo : b ≠ o) (hc : w0.cell? ⟨b, 0, none⟩ = some v) : w.cell? ⟨b, 0, none⟩ = some v := by
  obtain ⟨_, _, _, _, hg⟩ := h
  rw [World.cell?_of_block (hg.block b hb (by simpa using hbo)), hc]

set_option maxHeartbeats 400000 in
theorem tr29 (ks : List Int) (o b b' : Nat) (T' : TypeId) (f' : FuncId) (xs : List Int) (w0 w : World) (hs : St o w0 w xs) (hx : xs.length < 5000) (hb : b < w0.heap.size) (hbo : b ≠ o)
    (hc : w0.cell? ⟨b, 0, none⟩ = some (.iface T' (.pointer (some ⟨b', 0, none⟩)))) (hm : Meth T' f')
    (ih : ∀ w, St o w0 w (xs ++ [0]) → Calls Try.prog f' #[.pointer (some ⟨b', 0, none⟩), .func (.func 6) #[] #[.pointer (some ⟨o, 0, none⟩)]] w fun e w' => e = .returned (.tuple #[]) ∧ St o w0 w' (xs ++ [0] ++ ks)) :
    Calls Try.prog 24 #[.pointer (some ⟨b, 0, none⟩), .func (.func 6) #[] #[.pointer (some ⟨o, 0, none⟩)]] w fun e w' => e = .returned (.tuple #[]) ∧ St o w0 w' (xs ++ [0] ++ ks) := by
  have H := Lib.hid ih
  clear ih
  go_enter Try.func24, Try.ntmps24
  go_wp2_with fail
  refine (clo29 o _ xs w0 w hs hx).mono ?_
  rintro e w1 ⟨rfl, hs1⟩
  have hc1 := hs1.cell hb hbo hc
  have e1 := hm.m
  have e2 := hm.c
  go_wp2_with fail
  refine (H.out _ hs1).mono ?_
  rintro e w2 ⟨rfl, hs2⟩
  go_wp2_with fail
  go_end0
  exact ⟨rfl, hs2⟩

set_option maxHeartbeats 400000 in
theorem tr30 (ks : List Int) (o b b' : Nat) (T' : TypeId) (f' : FuncId) (xs : List Int) (w0 w : World) (hs : St o w0 w xs) (hx : xs.length < 5000) (hb : b < w0.heap.size) (hbo : b ≠ o)
    (hc : w0.cell? ⟨b, 0, none⟩ = some (.iface T' (.pointer (some ⟨b', 0, none⟩)))) (hm : Meth T' f')
    (ih : ∀ w, St o w0 w (xs ++ [1]) → Calls Try.prog f' #[.pointer (some ⟨b', 0, none⟩), .func (.func 6) #[] #[.pointer (some ⟨o, 0, none⟩)]] w fun e w' => e = .returned (.tuple #[]) ∧ St o w0 w' (xs ++ [1] ++ ks)) :
    Calls Try.prog 27 #[.pointer (some ⟨b, 0, none⟩), .func (.func 6) #[] #[.pointer (some ⟨o, 0, none⟩)]] w fun e w' => e = .returned (.tuple #[]) ∧ St o w0 w' (xs ++ [1] ++ ks) := by
  have H := Lib.hid ih
  clear ih
  go_enter Try.func27, Try.ntmps27
  go_wp2_with fail
  refine (clo30 o _ xs w0 w hs hx).mono ?_
  rintro e w1 ⟨rfl, hs1⟩
  have hc1 := hs1.cell hb hbo hc
  have e1 := hm.m
  have e2 := hm.c
  go_wp2_with fail
  refine (H.out _ hs1).mono ?_
  rintro e w2 ⟨rfl, hs2⟩
  go_wp2_with fail
  go_end0
  exact ⟨rfl, hs2⟩

set_option maxHeartbeats 400000 in
theorem tr31 (ks : List Int) (o b b' : Nat) (T' : TypeId) (f' : FuncId) (xs : List Int) (w0 w : World) (hs : St o w0 w xs) (hx : xs.length < 5000) (hb : b < w0.heap.size) (hbo : b ≠ o)
    (hc : w0.cell? ⟨b, 0, none⟩ = some (.iface T' (.pointer (some ⟨b', 0, none⟩)))) (hm : Meth T' f')
    (ih : ∀ w, St o w0 w (xs ++ [2]) → Calls Try.prog f' #[.pointer (some ⟨b', 0, none⟩), .func (.func 6) #[] #[.pointer (some ⟨o, 0, none⟩)]] w fun e w' => e = .returned (.tuple #[]) ∧ St o w0 w' (xs ++ [2] ++ ks)) :
    Calls Try.prog 30 #[.pointer (some ⟨b, 0, none⟩), .func (.func 6) #[] #[.pointer (some ⟨o, 0, none⟩)]] w fun e w' => e = .returned (.tuple #[]) ∧ St o w0 w' (xs ++ [2] ++ ks) := by
  have H := Lib.hid ih
  clear ih
  go_enter Try.func30, Try.ntmps30
  go_wp2_with fail
  refine (clo31 o _ xs w0 w hs hx).mono ?_
  rintro e w1 ⟨rfl, hs1⟩
  have hc1 := hs1.cell hb hbo hc
  have e1 := hm.m
  have e2 := hm.c
  go_wp2_with fail
  refine (H.out _ hs1).mono ?_
  rintro e w2 ⟨rfl, hs2⟩
  go_wp2_with fail
  go_end0
  exact ⟨rfl, hs2⟩

set_option maxHeartbeats 400000 in
theorem tr38 (o b : Nat) (xs : List Int) (w0 w : World) (hs : St o w0 w xs) (hx : xs.length < 5000) :
    Calls Try.prog 33 #[.pointer (some ⟨b, 0, none⟩), .func (.func 6) #[] #[.pointer (some ⟨o, 0, none⟩)]] w fun e w' => e = .returned (.tuple #[]) ∧ St o w0 w' (xs ++ [3]) := by
  go_enter Try.func33, Try.ntmps33
  go_wp2_with fail
  refine (clo38 o _ xs w0 w hs hx).mono ?_
  rintro e w1 ⟨rfl, hs1⟩
  go_wp2_with fail
  go_end0
  exact ⟨rfl, hs1⟩

/-- What 'signs' makes: ks: the kinds of the elements, the outer one first; T, f, b: the type, its Traverse and the block of the outer one. -/
def Tree (B o : Nat) (w : World) : List Int → TypeId → FuncId → Nat → Prop
  | [], T, f, b => (T = 38 ∧ f = 33) ∧ b < B ∧ b ≠ o
  | k :: ks, T, f, b => ((k = 0 ∧ T = 29 ∧ f = 24) ∨ (k = 1 ∧ T = 30 ∧ f = 27) ∨ (k = 2 ∧ T = 31 ∧ f = 30)) ∧ b < B ∧ b ≠ o ∧
      ∃ T' f' b', w.cell? ⟨b, 0, none⟩ = some (.iface T' (.pointer (some ⟨b', 0, none⟩))) ∧ Tree B o w ks T' f' b'

theorem Tree.meth {B o : Nat} {w : World} {ks : List Int} {T f b : Nat} (h : Tree B o w ks T f b) : Meth T f := by
  cases ks with
  | nil => obtain ⟨⟨rfl, rfl⟩, _⟩ := h; exact meth38
  | cons k ks =>
    obtain ⟨⟨_, rfl, rfl⟩ | ⟨_, rfl, rfl⟩ | ⟨_, rfl, rfl⟩, _⟩ := h
    · exact meth29
    · exact meth30
    · exact meth31

theorem traverse (o : Nat) (w0 : World) (ks : List Int) : ∀ (T f b : Nat) (xs : List Int) (w : World), Tree w0.heap.size o w0 ks T f b → St o w0 w xs → xs.length + ks.length < 5000 →
    Calls Try.prog f #[.pointer (some ⟨b, 0, none⟩), .func (.func 6) #[] #[.pointer (some ⟨o, 0, none⟩)]] w fun e w' => e = .returned (.tuple #[]) ∧ St o w0 w' (xs ++ ks ++ [3]) := by
  induction ks with
  | nil =>
    intro T f b xs w ht hs hx
    obtain ⟨⟨rfl, rfl⟩, _⟩ := ht
    rw [List.append_nil]
    exact tr38 o b xs w0 w hs (by simp at hx; omega)
  | cons k ks ih =>
    intro T f b xs w ht hs hx
    simp at hx
    obtain ⟨hk, hb, hbo, T', f', b', hc, ht'⟩ := ht
    have hm := ht'.meth
    have hi : ∀ w, St o w0 w (xs ++ [k]) → Calls Try.prog f' #[.pointer (some ⟨b', 0, none⟩), .func (.func 6) #[] #[.pointer (some ⟨o, 0, none⟩)]] w fun e w' => e = .returned (.tuple #[]) ∧ St o w0 w' (xs ++ [k] ++ (ks ++ [3])) := by
      intro w h
      have := ih T' f' b' (xs ++ [k]) w ht' h (by simp; omega)
      simpa using this
    have e : xs ++ k :: ks ++ [3] = xs ++ [k] ++ (ks ++ [3]) := by simp
    rw [e]
    rcases hk with ⟨rfl, rfl, rfl⟩ | ⟨rfl, rfl, rfl⟩ | ⟨rfl, rfl, rfl⟩
    · exact tr29 _ o b b' T' f' xs w0 w hs (by omega) hb hbo hc hm hi
    · exact tr30 _ o b b' T' f' xs w0 w hs (by omega) hb hbo hc hm hi
    · exact tr31 _ o b b' T' f' xs w0 w hs (by omega) hb hbo hc hm hi

end Go.Proofs.Ytaimdeohagchiaa

/-
  What several laws share, over the core with kept objects.
-/
import Derived.Test.YtjemnnfnocmjlaaGreatVK
namespace Go.Proofs.YtjemnnfnocmjlaaGreat
open Go.RowKit

theorem bytes_append (a b : ByteArray) : (a ++ b).data.toList = a.data.toList ++ b.data.toList := by simp [ByteArray.data_append]
theorem bytes_mk (a : ByteArray) : ByteArray.mk a.data.toList.toArray = a := by cases a; rfl
theorem bytes_mk_append (a : ByteArray) (l : List UInt8) : ByteArray.mk (a.data.toList ++ l).toArray = a ++ ByteArray.mk l.toArray := by
  apply ByteArray.ext; simp [ByteArray.data_append]

/-- True; nothing that was there has turned. -/
def Yes (w : World) (e : Ending) (w' : World) : Prop := e = .returned (.bool true) ∧ Below w.heap.size w w'

/-- Two new blocks. -/
theorem El.two (w : World) (c1 : Array Value) (T1 : TypeId) (c2 : Array Value) (T2 : TypeId) :
    El ((w.alloc (.cells c1 T1)).alloc (.cells c2 T2)).heap.size ((w.alloc (.cells c1 T1)).alloc (.cells c2 T2)) w.heap.size c1 T1 ∧
    El ((w.alloc (.cells c1 T1)).alloc (.cells c2 T2)).heap.size ((w.alloc (.cells c1 T1)).alloc (.cells c2 T2)) (w.heap.size + 1) c2 T2 ∧
    Below w.heap.size w ((w.alloc (.cells c1 T1)).alloc (.cells c2 T2)) := by
  refine ⟨⟨by simp; omega, by rw [Below.heap_alloc _ _ _ (by simp), heap_alloc_new]⟩, ⟨by simp, ?_⟩, ((Below.refl _ _).alloc (Nat.le_refl _) _).alloc (by simp) _⟩
  have := heap_alloc_new (w.alloc (.cells c1 T1)) (.cells c2 T2)
  simpa using this

set_option maxHeartbeats 400000 in
theorem builtin_any (s : ByteArray) (w : World) :
    Calls Tryz.prog 16 #[.string s] w fun e w' => e = .returned (.iface 67 (.pointer (some ⟨w.heap.size, 0, none⟩))) ∧ w.alloc (.cells #[.string s] 68) = w' := by
  go_enter Tryz.func16, Tryz.ntmps16
  go_wp2
  go_ret
  exact ⟨rfl, rfl⟩

/-- Three new blocks. -/
theorem El.three (w : World) (c1 : Array Value) (T1 : TypeId) (c2 : Array Value) (T2 : TypeId) (c3 : Array Value) (T3 : TypeId) :
    El (((w.alloc (.cells c1 T1)).alloc (.cells c2 T2)).alloc (.cells c3 T3)).heap.size (((w.alloc (.cells c1 T1)).alloc (.cells c2 T2)).alloc (.cells c3 T3)) w.heap.size c1 T1 ∧
    El (((w.alloc (.cells c1 T1)).alloc (.cells c2 T2)).alloc (.cells c3 T3)).heap.size (((w.alloc (.cells c1 T1)).alloc (.cells c2 T2)).alloc (.cells c3 T3)) (w.heap.size + 1) c2 T2 ∧
    El (((w.alloc (.cells c1 T1)).alloc (.cells c2 T2)).alloc (.cells c3 T3)).heap.size (((w.alloc (.cells c1 T1)).alloc (.cells c2 T2)).alloc (.cells c3 T3)) (w.heap.size + 1 + 1) c3 T3 ∧
    Below w.heap.size w (((w.alloc (.cells c1 T1)).alloc (.cells c2 T2)).alloc (.cells c3 T3)) := by
  obtain ⟨h1, h2, h3⟩ := El.two w c1 T1 c2 T2
  refine ⟨⟨by simp; omega, by rw [Below.heap_alloc _ _ _ (by simp; omega)]; exact h1.heap⟩, ⟨by simp, by rw [Below.heap_alloc _ _ _ (by simp)]; exact h2.heap⟩, ⟨by simp, ?_⟩, h3.alloc (by simp; omega) _⟩
  have := heap_alloc_new ((w.alloc (.cells c1 T1)).alloc (.cells c2 T2)) (.cells c3 T3)
  simpa using this

theorem El.grow {A A' b T : Nat} {w w' : World} {cs : Array Value} (h : El A w b cs T) (hA : A ≤ A') (hb : Below A w w') : El A' w' b cs T := ⟨by have := h.lt; omega, (h.keep hb).heap⟩

theorem PS.text_out (σ : PS) (l : List UInt8) : (σ.text l).out = σ.out ++ l := rfl
theorem PS.byte_out (σ : PS) (b : UInt8) : (σ.byte b).out = σ.out ++ [b] := rfl

set_option maxHeartbeats 400000 in
theorem fits_big (a : Option Addr) (n cap : Nat) (w : World) (hn : 2147483647 < n) (hm : n ≤ maxLen) :
    Calls Tryz.prog 5 #[.slice a n cap] w fun e w' => e = .returned (.bool false) ∧ w = w' := by
  unfold maxLen at hm
  go_enter Tryz.func5, Tryz.ntmps5
  go_wp2_with fail
  go_ret
  exact ⟨rfl, rfl⟩

/-- zzFits3, whatever the list. -/
theorem fits_is (a : Option Addr) (n cap : Nat) (ss : List ByteArray) (w : World) (h : Strs w a n ss) (hm : n ≤ maxLen) (hs : ∀ s ∈ ss, s.size ≤ maxLen) (b : Bool) (hb : b = (decide (n ≤ 2147483647) && fitsB ss)) :
    Calls Tryz.prog 5 #[.slice a n cap] w fun e w' => e = .returned (.bool b) ∧ w = w' := by
  by_cases hn : n ≤ 2147483647
  · rw [hb, decide_eq_true hn, Bool.true_and]
    exact fits_any a n cap ss w h hn hs
  · rw [hb, decide_eq_false hn, Bool.false_and]
    exact fits_big a n cap w (by omega) hm

theorem fitsB_all {ss : List ByteArray} (h : fitsB ss = true) : ∀ s ∈ ss, s.size ≤ 2147483647 := by
  intro s hs
  have := List.all_eq_true.1 h s hs
  simpa using this

theorem Strs.ofOwn {w : World} {B n : Nat} {v : Value} {ss : List ByteArray} (h : w.ownsRow B 9 1 v n (ss.map Value.string)) : ∃ a cap, v = .slice a n cap ∧ Strs w a n ss ∧ (a = none → cap = 0) := by
  have hl : ss.length = n := by simpa using h.1
  rcases h.2 with ⟨rfl, rfl⟩ | ⟨g, cap, cur, rfl, hb, hg, r⟩
  · exact ⟨none, 0, rfl, ⟨hl, fun h => by omega⟩, fun _ => rfl⟩
  · refine ⟨_, _, rfl, ⟨hl, fun hn => ⟨g, 0, rfl, lt_of_block hg, fun i hi => ?_⟩⟩, fun e => by simp at e⟩
    rw [Nat.zero_add, h.cellAt i (by omega)]
    simp [hl, hi]

/-- A list of texts as what an append appends. -/
theorem Strs.src {w : World} {a : Option Addr} {n cap : Nat} {ss : List ByteArray} (h : Strs w a n ss) (hn : a = none → cap = 0) : Src Tryz.prog 1 22 (.slice a n cap) n (ss.map Value.string) w := by
  cases a with
  | none =>
    have h0 : n = 0 := by
      rcases Nat.eq_zero_or_pos n with h0 | h0
      · exact h0
      · obtain ⟨_, _, e, _⟩ := h.cells h0
        simp at e
    subst h0
    have : ss = [] := List.eq_nil_of_length_eq_zero h.len
    subst this
    exact Src.ofNil w Tryz.underlying22 cap
  | some ad =>
    refine Src.ofSlice w Tryz.underlying22 ad n cap _ (by simp [h.len]) (fun j u hu => ?_) (fun u hu => by obtain ⟨_, _, rfl⟩ := List.mem_map.1 hu; rfl)
    have hj : j < n := by have := (List.getElem?_eq_some_iff.1 hu).1; simpa [h.len] using this
    obtain ⟨bl, off, e, _, hc⟩ := h.cells (by omega)
    simp at e
    subst e
    rw [Addr.add_lit, hc j hj]
    have : j < ss.length := by rw [h.len]; exact hj
    simpa [List.getD, this] using hu

end Go.Proofs.YtjemnnfnocmjlaaGreat

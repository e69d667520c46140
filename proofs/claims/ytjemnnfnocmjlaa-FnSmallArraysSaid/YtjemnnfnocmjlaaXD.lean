/-
  FnSmallSeldom: the four prints, and the law.
-/
import Derived.Test.YtjemnnfnocmjlaaXC
namespace Go.Proofs.Ytjemnnfnocmjlaa
open Go.RowKit

/-- Three new blocks. -/
theorem El.three (w : World) (c1 : Array Value) (T1 : TypeId) (c2 : Array Value) (T2 : TypeId) (c3 : Array Value) (T3 : TypeId) :
    El (((w.alloc (.cells c1 T1)).alloc (.cells c2 T2)).alloc (.cells c3 T3)).heap.size (((w.alloc (.cells c1 T1)).alloc (.cells c2 T2)).alloc (.cells c3 T3)) w.heap.size c1 T1 ∧
    El (((w.alloc (.cells c1 T1)).alloc (.cells c2 T2)).alloc (.cells c3 T3)).heap.size (((w.alloc (.cells c1 T1)).alloc (.cells c2 T2)).alloc (.cells c3 T3)) (w.heap.size + 1) c2 T2 ∧
    El (((w.alloc (.cells c1 T1)).alloc (.cells c2 T2)).alloc (.cells c3 T3)).heap.size (((w.alloc (.cells c1 T1)).alloc (.cells c2 T2)).alloc (.cells c3 T3)) (w.heap.size + 1 + 1) c3 T3 ∧
    Below w.heap.size w (((w.alloc (.cells c1 T1)).alloc (.cells c2 T2)).alloc (.cells c3 T3)) := by
  obtain ⟨h1, h2, h3⟩ := El.two w c1 T1 c2 T2
  refine ⟨⟨by simp; omega, by rw [Below.heap_alloc _ _ _ (by simp; omega)]; exact h1.heap⟩, ⟨by simp, by rw [Below.heap_alloc _ _ _ (by simp)]; exact h2.heap⟩, ⟨by simp, ?_⟩, h3.alloc (by simp; omega) _⟩
  have := heap_alloc_new ((w.alloc (.cells c1 T1)).alloc (.cells c2 T2)) (.cells c3 T3)
  simpa using this

theorem PX.start {A : Nat} {w : World} (h : PSt A w PS.start []) : PX A w PS.start [] [] := ⟨.slice none 0 0, h⟩

/-- What a method does to the state with inner types, as the whole text of a printing. -/
theorem whole_of {A : Nat} {w1 : World} {f b : Nat} {σ' : PS} {text : List UInt8} (ho : σ'.out = text)
    (h : Calls Try.prog f #[.pointer (some ⟨b, 0, none⟩), .pointer (some ⟨A, 0, none⟩)] w1 fun e w2 => e = .returned (.tuple #[]) ∧ PX A w2 σ' [] [] ∧ Below A w1 w2) :
    Calls Try.prog f #[.pointer (some ⟨b, 0, none⟩), .pointer (some ⟨A, 0, none⟩)] w1 fun e w2 => e = .returned (.tuple #[]) ∧ (∃ σ', PSt A w2 σ' [] ∧ σ'.out = text) ∧ Below A w1 w2 :=
  h.mono fun _ _ ⟨h1, ⟨_, h2⟩, h3⟩ => ⟨h1, ⟨_, h2, ho⟩, h3⟩

set_option maxHeartbeats 1000000 in
theorem printComplex_any (s : ByteArray) (w : World) (hl : s.size + 100 ≤ 140737488355328) :
    Calls Try.prog 26 #[.string s] w fun e w' => e = .returned (.string (s ++ complexW)) ∧ Below w.heap.size w w' := by
  go_enter Try.func26, Try.ntmps26
  go_wp2_with fail
  refine (builtin_any s w).mono ?_
  rintro e w1 ⟨rfl, rfl⟩
  go_wp2_with fail
  obtain ⟨hn0, he0, hb0⟩ := El.two w #[.string s] 101 #[.iface 100 (.pointer (some ⟨w.heap.size, 0, none⟩))] 73
  generalize ((w.alloc (Obj.cells #[.string s] 101)).alloc (Obj.cells #[.iface 100 (.pointer (some ⟨w.heap.size, 0, none⟩))] 73)) = W at *
  refine (ast_any _ _ _ W (s ++ complexW).data.toList ntComplexType (fun w1 hp hb => whole_of (by rw [PS.text_out, PS.text_out, bytes_append]; rfl) (mComplexType_any _ _ _ s w1 PS.start (PX.start hp) rfl (he0.keep hb) (hn0.keep hb) (by simp [PS.start]; omega)))).mono ?_
  rintro e w2 ⟨rfl, hb2⟩
  rw [bytes_mk]
  have hfin := hb0.trans (hb2.mono hb0.size)
  clear hn0 he0 hb0 hb2
  go_wp2_with fail
  go_ret
  exact ⟨rfl, hfin⟩

set_option maxHeartbeats 1000000 in
theorem printImaginary_any (s : ByteArray) (w : World) (hl : s.size + 100 ≤ 140737488355328) :
    Calls Try.prog 27 #[.string s] w fun e w' => e = .returned (.string (s ++ imaginaryW)) ∧ Below w.heap.size w w' := by
  go_enter Try.func27, Try.ntmps27
  go_wp2_with fail
  refine (builtin_any s w).mono ?_
  rintro e w1 ⟨rfl, rfl⟩
  go_wp2_with fail
  obtain ⟨hn0, he0, hb0⟩ := El.two w #[.string s] 101 #[.iface 100 (.pointer (some ⟨w.heap.size, 0, none⟩))] 75
  generalize ((w.alloc (Obj.cells #[.string s] 101)).alloc (Obj.cells #[.iface 100 (.pointer (some ⟨w.heap.size, 0, none⟩))] 75)) = W at *
  refine (ast_any _ _ _ W (s ++ imaginaryW).data.toList ntImaginaryType (fun w1 hp hb => whole_of (by rw [PS.text_out, PS.text_out, bytes_append]; rfl) (mImaginaryType_any _ _ _ s w1 PS.start (PX.start hp) rfl (he0.keep hb) (hn0.keep hb) (by simp [PS.start]; omega)))).mono ?_
  rintro e w2 ⟨rfl, hb2⟩
  rw [bytes_mk]
  have hfin := hb0.trans (hb2.mono hb0.size)
  clear hn0 he0 hb0 hb2
  go_wp2_with fail
  go_ret
  exact ⟨rfl, hfin⟩

set_option maxHeartbeats 1000000 in
theorem printVector_any (s d : ByteArray) (w : World) (hl : s.size + d.size + 100 ≤ 140737488355328) :
    Calls Try.prog 28 #[.string s, .string d] w fun e w' => e = .returned (.string (s ++ (vectorW ++ d ++ parenW))) ∧ Below w.heap.size w w' := by
  go_enter Try.func28, Try.ntmps28
  go_wp2_with fail
  refine (name_any d w).mono ?_
  rintro e w1 ⟨rfl, rfl⟩
  go_wp2_with fail
  refine (builtin_any s _).mono ?_
  rintro e w1 ⟨rfl, rfl⟩
  go_wp2_with fail
  obtain ⟨hd0, hn0, he0, hb0⟩ := El.three w #[.string d] 99 #[.string s] 101 #[.iface 97 (.pointer (some ⟨w.heap.size, 0, none⟩)), .iface 100 (.pointer (some ⟨w.heap.size + 1, 0, none⟩))] 78
  generalize (((w.alloc (Obj.cells #[.string d] 99)).alloc (Obj.cells #[.string s] 101)).alloc (Obj.cells #[.iface 97 (.pointer (some ⟨w.heap.size, 0, none⟩)), .iface 100 (.pointer (some ⟨w.heap.size + 1, 0, none⟩))] 78)) = W at *
  refine (ast_any _ _ _ W (s ++ (vectorW ++ d ++ parenW)).data.toList ntVectorType (fun w1 hp hb => whole_of (by rw [PS.byte_out, PS.text_out, PS.text_out, PS.text_out, bytes_append, bytes_append, bytes_append]; simp [PS.start, parenW]) (mVectorType_any _ _ _ _ s d w1 PS.start (PX.start hp) rfl (he0.keep hb) (hd0.keep hb) (hn0.keep hb) (by simp [PS.start]; omega)))).mono ?_
  rintro e w2 ⟨rfl, hb2⟩
  rw [bytes_mk]
  have hfin := hb0.trans (hb2.mono hb0.size)
  clear hd0 hn0 he0 hb0 hb2
  go_wp2_with fail
  go_ret
  exact ⟨rfl, hfin⟩

set_option maxHeartbeats 1000000 in
theorem printVendor_any (s d : ByteArray) (w : World) (hl : s.size + d.size + 100 ≤ 140737488355328) :
    Calls Try.prog 29 #[.string s, .string d] w fun e w' => e = .returned (.string (s ++ (blankW ++ d))) ∧ Below w.heap.size w w' := by
  go_enter Try.func29, Try.ntmps29
  go_wp2_with fail
  refine (name_any d w).mono ?_
  rintro e w1 ⟨rfl, rfl⟩
  go_wp2_with fail
  refine (builtin_any s _).mono ?_
  rintro e w1 ⟨rfl, rfl⟩
  go_wp2_with fail
  obtain ⟨hd0, hn0, he0, hb0⟩ := El.three w #[.string d] 99 #[.string s] 101 #[.iface 97 (.pointer (some ⟨w.heap.size, 0, none⟩)), .iface 100 (.pointer (some ⟨w.heap.size + 1, 0, none⟩))] 81
  generalize (((w.alloc (Obj.cells #[.string d] 99)).alloc (Obj.cells #[.string s] 101)).alloc (Obj.cells #[.iface 97 (.pointer (some ⟨w.heap.size, 0, none⟩)), .iface 100 (.pointer (some ⟨w.heap.size + 1, 0, none⟩))] 81)) = W at *
  refine (ast_any _ _ _ W (s ++ (blankW ++ d)).data.toList ntVendorQualifier (fun w1 hp hb => whole_of (by rw [PS.text_out, PS.byte_out, PS.text_out, bytes_append, bytes_append]; simp [PS.start, blankW]) (mVendorQualifier_any _ _ _ _ s d w1 PS.start (PX.start hp) rfl (he0.keep hb) (hd0.keep hb) (hn0.keep hb) (by simp [PS.start]; omega)))).mono ?_
  rintro e w2 ⟨rfl, hb2⟩
  rw [bytes_mk]
  have hfin := hb0.trans (hb2.mono hb0.size)
  clear hd0 hn0 he0 hb0 hb2
  go_wp2_with fail
  go_ret
  exact ⟨rfl, hfin⟩

set_option maxHeartbeats 1000000 in
theorem lawSeldom_s (s d q : ByteArray) (w : World) (hs : s.size ≤ maxLen) (h1 : 2147483647 < s.size) : Calls Try.prog 9 #[.string s, .string d, .string q] w (Yes w) := by
  unfold maxLen at hs
  go_enter Try.func9, Try.ntmps9
  go_wp2_with fail
  go_ret
  exact ⟨rfl, Below.refl _ _⟩

set_option maxHeartbeats 1000000 in
theorem lawSeldom_d (s d q : ByteArray) (w : World) (hs : s.size ≤ 2147483647) (hd : d.size ≤ maxLen) (h1 : 2147483647 < d.size) : Calls Try.prog 9 #[.string s, .string d, .string q] w (Yes w) := by
  unfold maxLen at hd
  go_enter Try.func9, Try.ntmps9
  go_wp2_with fail
  go_ret
  exact ⟨rfl, Below.refl _ _⟩

set_option maxHeartbeats 1000000 in
theorem lawSeldom_q (s d q : ByteArray) (w : World) (hs : s.size ≤ 2147483647) (hd : d.size ≤ 2147483647) (hq : q.size ≤ maxLen) (h1 : 2147483647 < q.size) : Calls Try.prog 9 #[.string s, .string d, .string q] w (Yes w) := by
  unfold maxLen at hq
  go_enter Try.func9, Try.ntmps9
  go_wp2_with fail
  go_ret
  exact ⟨rfl, Below.refl _ _⟩

set_option maxHeartbeats 2000000 in
theorem lawSeldom_main (s d q : ByteArray) (w : World) (hs : s.size ≤ 2147483647) (hd : d.size ≤ 2147483647) (hq : q.size ≤ 2147483647) : Calls Try.prog 9 #[.string s, .string d, .string q] w (Yes w) := by
  have q1 : ((s ++ complexW).toList == (s ++ ByteArray.mk #[32, 95, 67, 111, 109, 112, 108, 101, 120]).toList) = true := str_same rfl
  have q2 : ((s ++ imaginaryW).toList == (s ++ ByteArray.mk #[32, 95, 73, 109, 97, 103, 105, 110, 97, 114, 121]).toList) = true := str_same rfl
  have q3 : ((s ++ (vectorW ++ d ++ parenW)).toList == (s ++ ByteArray.mk #[32, 95, 95, 118, 101, 99, 116, 111, 114, 40] ++ d ++ ByteArray.mk #[41]).toList) = true := str_same (by
    show s ++ (vectorW ++ d ++ parenW) = s ++ vectorW ++ d ++ parenW
    apply ByteArray.ext; simp [ByteArray.data_append, Array.append_assoc])
  have q4 : ((s ++ (blankW ++ q)).toList == (s ++ ByteArray.mk #[32] ++ q).toList) = true := str_same (by
    show s ++ (blankW ++ q) = s ++ blankW ++ q
    apply ByteArray.ext; simp [ByteArray.data_append, Array.append_assoc])
  go_enter Try.func9, Try.ntmps9
  go_wp2_with fail
  refine (printComplex_any s w (by omega)).mono ?_
  rintro e w1 ⟨rfl, hb⟩
  go_wp2_with fail
  refine (printImaginary_any s w1 (by omega)).mono ?_
  rintro e w2 ⟨rfl, hb2⟩
  have hb2' := hb.trans (hb2.mono hb.size)
  clear hb2
  go_wp2_with fail
  refine (printVector_any s d w2 (by omega)).mono ?_
  rintro e w3 ⟨rfl, hb3⟩
  have hb3' := hb2'.trans (hb3.mono hb2'.size)
  clear hb3
  go_wp2_with fail
  refine (printVendor_any s q w3 (by omega)).mono ?_
  rintro e w4 ⟨rfl, hb4⟩
  have hb4' := hb3'.trans (hb4.mono hb3'.size)
  clear hb4
  go_wp2_with fail
  go_ret
  exact ⟨rfl, hb4'⟩

theorem lawSeldom_any (s : ByteArray) (hs : s.size ≤ maxLen) (d : ByteArray) (hd : d.size ≤ maxLen) (q : ByteArray) (hq : q.size ≤ maxLen) (w : World) : Calls Try.prog 9 #[.string s, .string d, .string q] w (Yes w) := by
  by_cases h1 : 2147483647 < s.size
  · exact lawSeldom_s s d q w hs h1
  by_cases h2 : 2147483647 < d.size
  · exact lawSeldom_d s d q w (by omega) hd h2
  by_cases h3 : 2147483647 < q.size
  · exact lawSeldom_q s d q w (by omega) (by omega) hq h3
  exact lawSeldom_main s d q w (by omega) (by omega) (by omega)

end Go.Proofs.Ytjemnnfnocmjlaa

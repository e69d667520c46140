/-
  FnSmallMaker, walked: a constructor, a destructor, a conversion, whatever the text.
-/
import Derived.Test.YtjemnnfnocmjlaaXA
namespace Go.Proofs.Ytjemnnfnocmjlaa
open Go.RowKit

/-- Two new blocks. -/
theorem El.two (w : World) (c1 : Array Value) (T1 : TypeId) (c2 : Array Value) (T2 : TypeId) :
    El ((w.alloc (.cells c1 T1)).alloc (.cells c2 T2)).heap.size ((w.alloc (.cells c1 T1)).alloc (.cells c2 T2)) w.heap.size c1 T1 ∧
    El ((w.alloc (.cells c1 T1)).alloc (.cells c2 T2)).heap.size ((w.alloc (.cells c1 T1)).alloc (.cells c2 T2)) (w.heap.size + 1) c2 T2 ∧
    Below w.heap.size w ((w.alloc (.cells c1 T1)).alloc (.cells c2 T2)) := by
  refine ⟨⟨by simp; omega, by rw [Below.heap_alloc _ _ _ (by simp), heap_alloc_new]⟩, ⟨by simp, ?_⟩, ((Below.refl _ _).alloc (Nat.le_refl _) _).alloc (by simp) _⟩
  have := heap_alloc_new (w.alloc (.cells c1 T1)) (.cells c2 T2)
  simpa using this

set_option maxHeartbeats 400000 in
theorem builtin_any (s : ByteArray) (w : World) :
    Calls Try.prog 34 #[.string s] w fun e w' => e = .returned (.iface 100 (.pointer (some ⟨w.heap.size, 0, none⟩))) ∧ w.alloc (.cells #[.string s] 101) = w' := by
  go_enter Try.func34, Try.ntmps34
  go_wp2
  go_ret
  exact ⟨rfl, rfl⟩

theorem mtConstructor (a : Addr) (w : World) : (method 304 62 (.pointer (some a)) "loop.example/pub-g01448/pub/demangle.print").run Try.prog w = .ok (94, .pointer (some a)) w := by kernel_rfl
theorem ccConstructor (args : Array Value) (w : World) : (callFunc 94 args).run Try.prog w = .ok (.enter 94 args) w := by kernel_rfl
theorem ntConstructor : NodeT 62 94 := meth_of 64 2 Try.underlying62 (by kernel_rfl) (by kernel_rfl) (by decide) mtConstructor ccConstructor

theorem mtDestructor (a : Addr) (w : World) : (method 304 65 (.pointer (some a)) "loop.example/pub-g01448/pub/demangle.print").run Try.prog w = .ok (97, .pointer (some a)) w := by kernel_rfl
theorem ccDestructor (args : Array Value) (w : World) : (callFunc 97 args).run Try.prog w = .ok (.enter 97 args) w := by kernel_rfl
theorem ntDestructor : NodeT 65 97 := meth_of 67 1 Try.underlying65 (by kernel_rfl) (by kernel_rfl) (by decide) mtDestructor ccDestructor

theorem mtCast (a : Addr) (w : World) : (method 304 68 (.pointer (some a)) "loop.example/pub-g01448/pub/demangle.print").run Try.prog w = .ok (101, .pointer (some a)) w := by kernel_rfl
theorem ccCast (args : Array Value) (w : World) : (callFunc 101 args).run Try.prog w = .ok (.enter 101 args) w := by kernel_rfl
theorem ntCast : NodeT 68 101 := meth_of 70 1 Try.underlying68 (by kernel_rfl) (by kernel_rfl) (by decide) mtCast ccCast

def tilde : ByteArray := ⟨#[126]⟩
def operatorW : ByteArray := ⟨#[111, 112, 101, 114, 97, 116, 111, 114, 32]⟩

set_option maxHeartbeats 1000000 in
theorem mConstructor_any (A b nb : Nat) (s : ByteArray) (w : World) (σ : PS) (h : PSt A w σ []) (_hv : σ.llvm = false) (he : El A w b #[.iface 97 (.pointer (some ⟨nb, 0, none⟩)), .nilIface] 64) (hn : El A w nb #[.string s] 99)
    (hl : σ.out.length + s.size + 100 ≤ 140737488355328) :
    Calls Try.prog 94 #[.pointer (some ⟨b, 0, none⟩), .pointer (some ⟨A, 0, none⟩)] w fun e w' => e = .returned (.tuple #[]) ∧ (∃ σ', PSt A w' σ' [] ∧ σ'.out = σ.out ++ (s).data.toList) ∧ Below A w w' := by
  have c0 : w.cell? ⟨b, 0, none⟩ = some (.iface 97 (.pointer (some ⟨nb, 0, none⟩))) := he.cell 0
  go_enter Try.func94, Try.ntmps94
  go_wp2_with fail
  refine (print_name A nb s w σ [] h hn Others.nil (by simp) (by omega)).mono ?_
  rintro e w1 ⟨rfl, hp, hb⟩
  go_wp2_with fail
  go_end0
  exact ⟨rfl, ⟨_, hp, rfl⟩, hb⟩

set_option maxHeartbeats 1000000 in
theorem mDestructor_any (A b nb : Nat) (s : ByteArray) (w : World) (σ : PS) (h : PSt A w σ []) (_hv : σ.llvm = false) (he : El A w b #[.iface 97 (.pointer (some ⟨nb, 0, none⟩))] 67) (hn : El A w nb #[.string s] 99)
    (hl : σ.out.length + s.size + 100 ≤ 140737488355328) :
    Calls Try.prog 97 #[.pointer (some ⟨b, 0, none⟩), .pointer (some ⟨A, 0, none⟩)] w fun e w' => e = .returned (.tuple #[]) ∧ (∃ σ', PSt A w' σ' [] ∧ σ'.out = σ.out ++ (tilde ++ s).data.toList) ∧ Below A w w' := by
  go_enter Try.func97, Try.ntmps97
  go_wp2_with fail
  refine (writeByte_any A w σ [] 126 126 rfl h (by omega)).mono ?_
  rintro e w1 ⟨rfl, hp, hb⟩
  have c0 : w1.cell? ⟨b, 0, none⟩ = some (.iface 97 (.pointer (some ⟨nb, 0, none⟩))) := (he.keep hb).cell 0
  go_wp2_with fail
  refine (print_name A nb s w1 _ [] hp (hn.keep hb) Others.nil (by simp) (by show (σ.out ++ [126]).length + _ ≤ _; simp; omega)).mono ?_
  rintro e w2 ⟨rfl, hp2, hb2⟩
  go_wp2_with fail
  go_end0
  refine ⟨rfl, ⟨_, hp2, ?_⟩, hb.trans hb2⟩
  show (σ.out ++ [126]) ++ s.data.toList = _
  rw [bytes_append, List.append_assoc]
  rfl

set_option maxHeartbeats 1000000 in
theorem mCast_any (A b nb : Nat) (s : ByteArray) (w : World) (σ : PS) (h : PSt A w σ []) (hv : σ.llvm = false) (he : El A w b #[.iface 100 (.pointer (some ⟨nb, 0, none⟩))] 70) (hn : El A w nb #[.string s] 101)
    (hl : σ.out.length + s.size + 100 ≤ 140737488355328) :
    Calls Try.prog 101 #[.pointer (some ⟨b, 0, none⟩), .pointer (some ⟨A, 0, none⟩)] w fun e w' => e = .returned (.tuple #[]) ∧ (∃ σ', PSt A w' σ' [] ∧ σ'.out = σ.out ++ (operatorW ++ s).data.toList) ∧ Below A w w' := by
  go_enter Try.func101, Try.ntmps101
  go_wp2_with fail
  change Calls Try.prog 63 #[.pointer (some ⟨A, 0, none⟩), .string operatorW] w _
  refine (writeString_any A w σ [] operatorW h (by rw [show operatorW.size = 9 from rfl]; omega)).mono ?_
  rintro e w1 ⟨rfl, hp, hb⟩
  have c0 : w1.cell? ⟨b, 0, none⟩ = some (.iface 100 (.pointer (some ⟨nb, 0, none⟩))) := (he.keep hb).cell 0
  go_wp2_with fail
  refine (print_builtin A nb s w1 _ [] hp hv (hn.keep hb) Others.nil (by simp) (by show (σ.out ++ operatorW.data.toList).length + _ ≤ _; rw [List.length_append, show operatorW.data.toList.length = 9 from rfl]; omega)).mono ?_
  rintro e w2 ⟨rfl, hp2, hb2⟩
  go_wp2_with fail
  go_end0
  refine ⟨rfl, ⟨_, hp2, ?_⟩, hb.trans hb2⟩
  show (σ.out ++ operatorW.data.toList) ++ s.data.toList = _
  rw [bytes_append, List.append_assoc]

set_option maxHeartbeats 1000000 in
theorem printConstructor_any (s : ByteArray) (w : World) (hl : s.size + 100 ≤ 140737488355328) :
    Calls Try.prog 20 #[.string s] w fun e w' => e = .returned (.string (s)) ∧ Below w.heap.size w w' := by
  go_enter Try.func20, Try.ntmps20
  go_wp2_with fail
  refine (name_any s w).mono ?_
  rintro e w1 ⟨rfl, rfl⟩
  go_wp2_with fail
  obtain ⟨hn0, he0, hb0⟩ := El.two w #[.string s] 99 #[.iface 97 (.pointer (some ⟨w.heap.size, 0, none⟩)), .nilIface] 64
  generalize ((w.alloc (Obj.cells #[.string s] 99)).alloc (Obj.cells #[.iface 97 (.pointer (some ⟨w.heap.size, 0, none⟩)), .nilIface] 64)) = W at *
  refine (ast_any _ _ _ W (s).data.toList ntConstructor (fun w1 hp hb => (mConstructor_any _ _ _ s w1 PS.start hp rfl (he0.keep hb) (hn0.keep hb) (by simp [PS.start]; omega)))).mono ?_
  rintro e w2 ⟨rfl, hb2⟩
  rw [bytes_mk]
  have hfin := hb0.trans (hb2.mono hb0.size)
  clear hn0 he0 hb0 hb2
  go_wp2_with fail
  go_ret
  exact ⟨rfl, hfin⟩

set_option maxHeartbeats 1000000 in
theorem printDestructor_any (s : ByteArray) (w : World) (hl : s.size + 100 ≤ 140737488355328) :
    Calls Try.prog 21 #[.string s] w fun e w' => e = .returned (.string (tilde ++ s)) ∧ Below w.heap.size w w' := by
  go_enter Try.func21, Try.ntmps21
  go_wp2_with fail
  refine (name_any s w).mono ?_
  rintro e w1 ⟨rfl, rfl⟩
  go_wp2_with fail
  obtain ⟨hn0, he0, hb0⟩ := El.two w #[.string s] 99 #[.iface 97 (.pointer (some ⟨w.heap.size, 0, none⟩))] 67
  generalize ((w.alloc (Obj.cells #[.string s] 99)).alloc (Obj.cells #[.iface 97 (.pointer (some ⟨w.heap.size, 0, none⟩))] 67)) = W at *
  refine (ast_any _ _ _ W (tilde ++ s).data.toList ntDestructor (fun w1 hp hb => (mDestructor_any _ _ _ s w1 PS.start hp rfl (he0.keep hb) (hn0.keep hb) (by simp [PS.start]; omega)))).mono ?_
  rintro e w2 ⟨rfl, hb2⟩
  rw [bytes_mk]
  have hfin := hb0.trans (hb2.mono hb0.size)
  clear hn0 he0 hb0 hb2
  go_wp2_with fail
  go_ret
  exact ⟨rfl, hfin⟩

set_option maxHeartbeats 1000000 in
theorem printCast_any (s : ByteArray) (w : World) (hl : s.size + 100 ≤ 140737488355328) :
    Calls Try.prog 22 #[.string s] w fun e w' => e = .returned (.string (operatorW ++ s)) ∧ Below w.heap.size w w' := by
  go_enter Try.func22, Try.ntmps22
  go_wp2_with fail
  refine (builtin_any s w).mono ?_
  rintro e w1 ⟨rfl, rfl⟩
  go_wp2_with fail
  obtain ⟨hn0, he0, hb0⟩ := El.two w #[.string s] 101 #[.iface 100 (.pointer (some ⟨w.heap.size, 0, none⟩))] 70
  generalize ((w.alloc (Obj.cells #[.string s] 101)).alloc (Obj.cells #[.iface 100 (.pointer (some ⟨w.heap.size, 0, none⟩))] 70)) = W at *
  refine (ast_any _ _ _ W (operatorW ++ s).data.toList ntCast (fun w1 hp hb => (mCast_any _ _ _ s w1 PS.start hp rfl (he0.keep hb) (hn0.keep hb) (by simp [PS.start]; omega)))).mono ?_
  rintro e w2 ⟨rfl, hb2⟩
  rw [bytes_mk]
  have hfin := hb0.trans (hb2.mono hb0.size)
  clear hn0 he0 hb0 hb2
  go_wp2_with fail
  go_ret
  exact ⟨rfl, hfin⟩

set_option maxHeartbeats 1000000 in
theorem lawMaker_s (s : ByteArray) (w : World) (hs : s.size ≤ maxLen) (h1 : 2147483647 < s.size) : Calls Try.prog 7 #[.string s] w (Yes w) := by
  unfold maxLen at hs
  go_enter Try.func7, Try.ntmps7
  go_wp2_with fail
  go_ret
  exact ⟨rfl, Below.refl _ _⟩

set_option maxHeartbeats 1000000 in
theorem lawMaker_main (s : ByteArray) (w : World) (hs : s.size ≤ 2147483647) : Calls Try.prog 7 #[.string s] w (Yes w) := by
  have q1 : ((tilde ++ s).toList == (ByteArray.mk #[126] ++ s).toList) = true := str_same rfl
  have q2 : ((operatorW ++ s).toList == (ByteArray.mk #[111, 112, 101, 114, 97, 116, 111, 114, 32] ++ s).toList) = true := str_same rfl
  go_enter Try.func7, Try.ntmps7
  go_wp2_with fail
  refine (printConstructor_any s w (by omega)).mono ?_
  rintro e w1 ⟨rfl, hb⟩
  go_wp2_with fail
  refine (printDestructor_any s w1 (by omega)).mono ?_
  rintro e w2 ⟨rfl, hb2⟩
  go_wp2_with fail
  refine (printCast_any s w2 (by omega)).mono ?_
  rintro e w3 ⟨rfl, hb3⟩
  go_wp2_with fail
  go_ret
  exact ⟨rfl, (hb.trans (hb2.mono hb.size)).trans (hb3.mono (Nat.le_trans hb.size hb2.size))⟩

theorem lawMaker_any (s : ByteArray) (hs : s.size ≤ maxLen) (w : World) : Calls Try.prog 7 #[.string s] w (Yes w) := by
  by_cases h1 : 2147483647 < s.size
  · exact lawMaker_s s w hs h1
  exact lawMaker_main s w (by omega)

end Go.Proofs.Ytjemnnfnocmjlaa

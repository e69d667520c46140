/-
  FnSmallClone, walked: true, whatever the two texts.
-/
import Derived.Test.YtjemnnfnocmjlaaV
namespace Go.Proofs.Ytjemnnfnocmjlaa
open Go.RowKit

theorem mtClone (a : Addr) (w : World) : (method 304 47 (.pointer (some a)) "loop.example/pub-g01448/pub/demangle.print").run Try.prog w = .ok (59, .pointer (some a)) w := by kernel_rfl
theorem ccClone (args : Array Value) (w : World) : (callFunc 59 args).run Try.prog w = .ok (.enter 59 args) w := by kernel_rfl
theorem ntClone : NodeT 47 59 := meth_of 52 2 Try.underlying47 (by kernel_rfl) (by kernel_rfl) (by decide) mtClone ccClone

theorem bytes_append (a b : ByteArray) : (a ++ b).data.toList = a.data.toList ++ b.data.toList := by simp [ByteArray.data_append]
theorem bytes_mk (a : ByteArray) : ByteArray.mk a.data.toList.toArray = a := by cases a; rfl
theorem bytes_mk_append (a : ByteArray) (l : List UInt8) : ByteArray.mk (a.data.toList ++ l).toArray = a ++ ByteArray.mk l.toArray := by
  apply ByteArray.ext; simp [ByteArray.data_append]

def cloneIn : ByteArray := ⟨#[32, 91, 99, 108, 111, 110, 101, 32]⟩
def bracket : ByteArray := ⟨#[93]⟩

set_option maxHeartbeats 1000000 in
theorem mClone_any (A b nb : Nat) (s x : ByteArray) (w : World) (σ : PS) (h : PSt A w σ []) (hv : σ.llvm = false) (he : El A w b #[.iface 97 (.pointer (some ⟨nb, 0, none⟩)), .string x] 52) (hn : El A w nb #[.string s] 99)
    (hl : σ.out.length + s.size + x.size + 100 ≤ 140737488355328) :
    Calls Try.prog 59 #[.pointer (some ⟨b, 0, none⟩), .pointer (some ⟨A, 0, none⟩)] w fun e w' => e = .returned (.tuple #[]) ∧ (∃ σ', PSt A w' σ' [] ∧ σ'.out = σ.out ++ (s ++ (cloneIn ++ x ++ bracket)).data.toList) ∧ Below A w w' := by
  have c0 : w.cell? ⟨b, 0, none⟩ = some (.iface 97 (.pointer (some ⟨nb, 0, none⟩))) := he.cell 0
  go_enter Try.func59, Try.ntmps59
  go_wp2_with fail
  refine (print_name A nb s w σ [] h hn Others.nil (by simp) (by omega)).mono ?_
  rintro e w1 ⟨rfl, hp, hb⟩
  have c1 : w1.cell? ⟨b, 1, none⟩ = some (.string x) := (he.keep hb).cell 1
  have c2 := hp.cLlvm
  rw [show (σ.text s.data.toList).llvm = false from hv] at c2
  go_wp2_with fail
  change Calls Try.prog 63 #[.pointer (some ⟨A, 0, none⟩), .string (cloneIn ++ x ++ bracket)] w1 _
  have hsz : (cloneIn ++ x ++ bracket).size = x.size + 9 := by rw [ByteArray.size_append, ByteArray.size_append, show cloneIn.size = 8 from rfl, show bracket.size = 1 from rfl]; omega
  refine (writeString_any A w1 _ [] (cloneIn ++ x ++ bracket) hp (by show (σ.out ++ s.data.toList).length + _ ≤ _; rw [hsz, List.length_append, Array.length_toList]; show _ + s.size + _ ≤ _; omega)).mono ?_
  rintro e w2 ⟨rfl, hp2, hb2⟩
  clear hsz
  go_wp2_with fail
  go_end0
  refine ⟨rfl, ⟨_, hp2, ?_⟩, hb.trans hb2⟩
  show (σ.out ++ s.data.toList) ++ (cloneIn ++ x ++ bracket).data.toList = _
  rw [bytes_append s, List.append_assoc]

set_option maxHeartbeats 1000000 in
theorem printClone_any (s x : ByteArray) (w : World) (hl : s.size + x.size + 100 ≤ 140737488355328) :
    Calls Try.prog 12 #[.string s, .string x] w fun e w' => e = .returned (.string (s ++ (cloneIn ++ x ++ bracket))) ∧ Below w.heap.size w w' := by
  go_enter Try.func12, Try.ntmps12
  go_wp2_with fail
  refine (name_any s w).mono ?_
  rintro e w1 ⟨rfl, rfl⟩
  go_wp2_with fail
  have hn0 : El ((w.alloc (Obj.cells #[.string s] 99)).alloc (Obj.cells #[.iface 97 (.pointer (some ⟨w.heap.size, 0, none⟩)), .string x] 52)).heap.size
      ((w.alloc (Obj.cells #[.string s] 99)).alloc (Obj.cells #[.iface 97 (.pointer (some ⟨w.heap.size, 0, none⟩)), .string x] 52)) w.heap.size #[.string s] 99 :=
    ⟨by simp; omega, by rw [Below.heap_alloc _ _ _ (by simp), heap_alloc_new]⟩
  have he0 : El ((w.alloc (Obj.cells #[.string s] 99)).alloc (Obj.cells #[.iface 97 (.pointer (some ⟨w.heap.size, 0, none⟩)), .string x] 52)).heap.size
      ((w.alloc (Obj.cells #[.string s] 99)).alloc (Obj.cells #[.iface 97 (.pointer (some ⟨w.heap.size, 0, none⟩)), .string x] 52)) (w.heap.size + 1) #[.iface 97 (.pointer (some ⟨w.heap.size, 0, none⟩)), .string x] 52 :=
    ⟨by simp, by have := heap_alloc_new (w.alloc (Obj.cells #[.string s] 99)) (Obj.cells #[.iface 97 (.pointer (some ⟨w.heap.size, 0, none⟩)), .string x] 52); simpa using this⟩
  have hb0 : Below w.heap.size w ((w.alloc (Obj.cells #[.string s] 99)).alloc (Obj.cells #[.iface 97 (.pointer (some ⟨w.heap.size, 0, none⟩)), .string x] 52)) :=
    ((Below.refl _ _).alloc (Nat.le_refl _) _).alloc (by simp) _
  generalize ((w.alloc (Obj.cells #[.string s] 99)).alloc (Obj.cells #[.iface 97 (.pointer (some ⟨w.heap.size, 0, none⟩)), .string x] 52)) = W at *
  refine (ast_any _ _ _ W (s ++ (cloneIn ++ x ++ bracket)).data.toList ntClone (fun w1 hp hb => mClone_any _ _ _ s x w1 PS.start hp rfl (he0.keep hb) (hn0.keep hb) (by simp [PS.start]; omega))).mono ?_
  rintro e w2 ⟨rfl, hb2⟩
  rw [bytes_mk]
  have hfin := hb0.trans (hb2.mono hb0.size)
  clear hn0 he0 hb0 hb2
  go_wp2_with fail
  go_ret
  exact ⟨rfl, hfin⟩

/-- True; nothing that was there has turned. -/
def Yes (w : World) (e : Ending) (w' : World) : Prop := e = .returned (.bool true) ∧ Below w.heap.size w w'

set_option maxHeartbeats 1000000 in
theorem lawClone_s (s x : ByteArray) (w : World) (hs : s.size ≤ maxLen) (h1 : 2147483647 < s.size) : Calls Try.prog 3 #[.string s, .string x] w (Yes w) := by
  unfold maxLen at hs
  go_enter Try.func3, Try.ntmps3
  go_wp2_with fail
  go_ret
  exact ⟨rfl, Below.refl _ _⟩

set_option maxHeartbeats 1000000 in
theorem lawClone_x (s x : ByteArray) (w : World) (hs : s.size ≤ 2147483647) (hx : x.size ≤ maxLen) (h1 : 2147483647 < x.size) : Calls Try.prog 3 #[.string s, .string x] w (Yes w) := by
  unfold maxLen at hx
  go_enter Try.func3, Try.ntmps3
  go_wp2_with fail
  go_ret
  exact ⟨rfl, Below.refl _ _⟩

set_option maxHeartbeats 1000000 in
theorem lawClone_main (s x : ByteArray) (w : World) (hs : s.size ≤ 2147483647) (hx : x.size ≤ 2147483647) : Calls Try.prog 3 #[.string s, .string x] w (Yes w) := by
  have hq : ((s ++ (cloneIn ++ x ++ bracket)).toList == (s ++ ⟨#[32, 91, 99, 108, 111, 110, 101, 32]⟩ ++ x ++ ⟨#[93]⟩).toList) = true := str_same (by
    show s ++ (cloneIn ++ x ++ bracket) = s ++ cloneIn ++ x ++ bracket
    apply ByteArray.ext; simp [ByteArray.data_append, Array.append_assoc])
  go_enter Try.func3, Try.ntmps3
  go_wp2_with fail
  refine (printClone_any s x w (by omega)).mono ?_
  rintro e w1 ⟨rfl, hb⟩
  go_wp2_with fail
  go_ret
  exact ⟨rfl, hb⟩

theorem lawClone_any (s : ByteArray) (hs : s.size ≤ maxLen) (x : ByteArray) (hx : x.size ≤ maxLen) (w : World) : Calls Try.prog 3 #[.string s, .string x] w (Yes w) := by
  by_cases h1 : 2147483647 < s.size
  · exact lawClone_s s x w hs h1
  by_cases h2 : 2147483647 < x.size
  · exact lawClone_x s x w (by omega) hx h2
  exact lawClone_main s x w (by omega) (by omega)

end Go.Proofs.Ytjemnnfnocmjlaa

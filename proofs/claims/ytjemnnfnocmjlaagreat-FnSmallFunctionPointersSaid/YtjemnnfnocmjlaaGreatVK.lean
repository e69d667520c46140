/-
  Names and builtin types by printState.print; ASTToString without options.
-/
import Derived.Test.YtjemnnfnocmjlaaGreatUK
namespace Go.Proofs.YtjemnnfnocmjlaaGreat
open Go.RowKit

theorem meth_of {T : TypeId} {f : FuncId} (te : TypeId) (n : Nat) (h1 : Tryz.prog.underlying T = some (.pointer te)) (h2 : (Tryz.prog.info? T).map (fun i => i.comparable) = some true) (h3 : (Tryz.prog.info? te).map (fun i => i.size) = some n) (hn : n ≠ 0)
    (m : ∀ (a : Addr) (w : World), (method 264 T (.pointer (some a)) "loop.example/pub-g01448/pub/demangle.print").run Tryz.prog w = .ok (f, .pointer (some a)) w) (c : ∀ (args : Array Value) (w : World), (callFunc f args).run Tryz.prog w = .ok (.enter f args) w) : NodeT T f :=
  ⟨nodeT_of h1 h2 h3 hn, m, c⟩

theorem mtName (a : Addr) (w : World) : (method 264 63 (.pointer (some a)) "loop.example/pub-g01448/pub/demangle.print").run Tryz.prog w = .ok (68, .pointer (some a)) w := by kernel_rfl
theorem ccName (args : Array Value) (w : World) : (callFunc 68 args).run Tryz.prog w = .ok (.enter 68 args) w := by kernel_rfl
theorem ntName : NodeT 63 68 := meth_of 65 1 Tryz.underlying63 (by kernel_rfl) (by kernel_rfl) (by decide) mtName ccName

theorem mtBuiltin (a : Addr) (w : World) : (method 264 67 (.pointer (some a)) "loop.example/pub-g01448/pub/demangle.print").run Tryz.prog w = .ok (71, .pointer (some a)) w := by kernel_rfl
theorem ccBuiltin (args : Array Value) (w : World) : (callFunc 71 args).run Tryz.prog w = .ok (.enter 71 args) w := by kernel_rfl
theorem ntBuiltin : NodeT 67 71 := meth_of 68 1 Tryz.underlying67 (by kernel_rfl) (by kernel_rfl) (by decide) mtBuiltin ccBuiltin

/-- Block b is an element with these cells, of the type T, and lies below A. -/
structure El (A : Nat) (w : World) (b : Nat) (cs : Array Value) (T : TypeId) : Prop where
  lt : b < A
  heap : w.heap[b]? = some (.cells cs T (0, 0))

theorem El.keep {A b T : Nat} {w w' : World} {cs : Array Value} (h : El A w b cs T) (hb : Below A w w') : El A w' b cs T := ⟨h.lt, by rw [hb.block b h.lt]; exact h.heap⟩
theorem El.node {A b T : Nat} {w : World} {cs : Array Value} (h : El A w b cs T) : NodeAt A w b := ⟨h.lt, cs, T, h.heap⟩
theorem El.cell {A b T : Nat} {w : World} {cs : Array Value} (h : El A w b cs T) (j : Nat) : w.cell? ⟨b, j, none⟩ = cs[j]? := Lib.cell_of_heap h.heap j

/-- What is being printed, one element more; none of them is in block b'. -/
theorem Others.snoc {A b b' T : Nat} {w : World} {pr : List Value} (h : Others A w b' pr) (hn : NodeAt A w b) (hne : b ≠ b') : Others A w b' (pr ++ [.iface T (.pointer (some ⟨b, 0, none⟩))]) := by
  intro u hu
  rcases List.mem_append.1 hu with hu | hu
  · exact h u hu
  · simp at hu
    exact ⟨T, b, hu, hn, hne⟩

theorem Others.nil {A b : Nat} {w : World} : Others A w b [] := fun u hu => by simp at hu

theorem print_name (A b : Nat) (s : ByteArray) (w : World) (σ : PS) (pr : List Value) (h : PSt A w σ pr) (he : El A w b #[.string s] 65) (ho : Others A w b pr) (hl : pr.length ≤ 100000) (hs : σ.out.length + s.size ≤ 140737488355328) :
    Calls Tryz.prog 39 #[.pointer (some ⟨A, 0, none⟩), .iface 63 (.pointer (some ⟨b, 0, none⟩))] w fun e w' => e = .returned (.tuple #[]) ∧ PSt A w' (σ.text s.data.toList) pr ∧ Below A w w' :=
  print_any A _ b _ w σ _ pr h ntName he.node ho hl fun w1 h1 hb => mName_any A b s w1 σ _ h1 ((he.keep hb).cell 0) hs

theorem print_builtin (A b : Nat) (s : ByteArray) (w : World) (σ : PS) (pr : List Value) (h : PSt A w σ pr) (hv : σ.llvm = false) (he : El A w b #[.string s] 68) (ho : Others A w b pr) (hl : pr.length ≤ 100000) (hs : σ.out.length + s.size ≤ 140737488355328) :
    Calls Tryz.prog 39 #[.pointer (some ⟨A, 0, none⟩), .iface 67 (.pointer (some ⟨b, 0, none⟩))] w fun e w' => e = .returned (.tuple #[]) ∧ PSt A w' (σ.text s.data.toList) pr ∧ Below A w w' :=
  print_any A _ b _ w σ _ pr h ntBuiltin he.node ho hl fun w1 h1 hb => mBuiltin_any A b s w1 σ _ h1 hv ((he.keep hb).cell 0) hs

/-- The state in which a printing begins, without options. -/
def PS.start : PS := ⟨true, true, false, 1, [], 0, .slice none 0 0, [], []⟩

theorem PSt.fresh (w : World) (cs : Array Value) (σ : PS) (ho : σ.out = []) (hi : σ.iv = .slice none 0 0) (hn : σ.inner = []) (hk : σ.kept = [])
    (hc : cs = #[.bool σ.tp, .bool σ.ep, .bool σ.llvm, .int .i64 0, .int .i64 σ.scopes, .pointer none, .slice none 0 0, .int .u8 σ.last, .slice none 0 0, .slice none 0 0]) :
    PSt w.heap.size (w.alloc (.cells cs 59)) σ [] := by
  refine ⟨.pointer none, .slice none 0 0, .slice none 0 0, ?_, .inl rfl, ?_, fun _ => rfl, ?_, World.ownsRow_nil _ _ _ _, ?_, by rw [hk]; exact Kept.nil _⟩
  · rw [heap_alloc_new, hc, hi]
  · rw [ho]; exact World.ownsRow_nil _ _ _ _
  · rw [hi, hn]; exact World.ownsRow_nil _ _ _ _
  · intro g hg
    rw [hi] at hg
    simp [Value.ownBlock] at hg

/-- The whole text that an element's method prints. -/
def Whole (A : Nat) (w : World) (f : FuncId) (b : Nat) (σ : PS) (text : List UInt8) : Prop :=
  ∀ w1, PSt A w1 σ [] → Below A w w1 → Calls Tryz.prog f #[.pointer (some ⟨b, 0, none⟩), .pointer (some ⟨A, 0, none⟩)] w1 fun e w2 => e = .returned (.tuple #[]) ∧ (∃ σ', PSt A w2 σ' [] ∧ σ'.out = text) ∧ Below A w1 w2

set_option maxHeartbeats 2000000 in
theorem ast_any (T b f : Nat) (w : World) (text : List UInt8) (ht : NodeT T f) (hw : Whole w.heap.size w f b PS.start text) :
    Calls Tryz.prog 13 #[.iface T (.pointer (some ⟨b, 0, none⟩)), .slice none 0 0] w fun e w' => e = .returned (.string ⟨text.toArray⟩) ∧ Below w.heap.size w w' := by
  have HW := Lib.hid hw
  have e1 := ht.m
  have e2 := ht.c
  clear hw ht
  go_enter Tryz.func13, Tryz.ntmps13
  go_wp2_with fail
  refine wp_loop_rounds 1 ?_
  rw [rounds_succ]
  go_wp2_with fail
  refine (HW.out _ (PSt.fresh w _ PS.start rfl rfl rfl rfl rfl) ((Below.refl _ w).alloc (Nat.le_refl _) _)).mono ?_
  rintro e w2 ⟨rfl, ⟨σ', hp, ho⟩, hb⟩
  have hb1 := ((Below.refl w.heap.size w).alloc (Nat.le_refl _) _).trans hb
  have HO := Lib.hid ho
  clear ho hb e1 e2
  go_wp2_with fail
  refine (string_any w.heap.size w2 σ' [] hp).mono ?_
  rintro e w3 ⟨rfl, hb3⟩
  go_wp2_with fail
  go_ret
  exact ⟨by rw [← HO.out]; rfl, hb1.trans hb3⟩

end Go.Proofs.YtjemnnfnocmjlaaGreat

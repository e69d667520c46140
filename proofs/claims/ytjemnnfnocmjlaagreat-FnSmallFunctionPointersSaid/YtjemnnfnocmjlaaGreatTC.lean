/-
  FunctionType's print, Typed's print.
-/
import Derived.Test.YtjemnnfnocmjlaaGreatTB
import Derived.Defers
import Derived.StillTailTactics
namespace Go.Proofs.YtjemnnfnocmjlaaGreat
open Go.RowKit

theorem mtFunctionType (a : Addr) (w : World) : (method 264 38 (.pointer (some a)) "loop.example/pub-g01448/pub/demangle.print").run Tryz.prog w = .ok (47, .pointer (some a)) w := by kernel_rfl
theorem ccFunctionType (args : Array Value) (w : World) : (callFunc 47 args).run Tryz.prog w = .ok (.enter 47 args) w := by kernel_rfl
theorem ntFunctionType : NodeT 38 47 := meth_of 44 3 Tryz.underlying38 (by kernel_rfl) (by kernel_rfl) (by decide) mtFunctionType ccFunctionType

set_option maxRecDepth 100000 in
set_option maxHeartbeats 4000000 in
/-- FunctionType's print, with what it returns. -/
theorem ft_ret (A b : Nat) (TR : TypeId) (pR argv : Value) (w : World) (σ σ1 σ2 : PS) (inner pr : List Value) (h : PX A w σ inner pr) (he : El A w b #[.iface TR pR, argv, .bool false] 44) (hl : inner.length ≤ 100000) (hx : σ1.out.length + 100 ≤ 140737488355328)
    (hbase : ∀ w1, PX A w1 σ (inner ++ [.iface 38 (.pointer (some ⟨b, 0, none⟩))]) pr → Below A w w1 →
      Calls Tryz.prog 39 #[.pointer (some ⟨A, 0, none⟩), .iface TR pR] w1 fun e w2 => e = .returned (.tuple #[]) ∧ PX A w2 σ1 (inner ++ [.iface 38 (.pointer (some ⟨b, 0, none⟩))]) pr ∧ Below A w1 w2)
    (hargs : ∀ w1, PX A w1 (σ1.byte 32) inner pr → Below A w w1 →
      Calls Tryz.prog 48 #[.pointer (some ⟨b, 0, none⟩), .pointer (some ⟨A, 0, none⟩)] w1 fun e w2 => e = .returned (.tuple #[]) ∧ PX A w2 σ2 [] pr ∧ Below A w1 w2) :
    Calls Tryz.prog 47 #[.pointer (some ⟨b, 0, none⟩), .pointer (some ⟨A, 0, none⟩)] w fun e w' => e = .returned (.tuple #[]) ∧ PX A w' σ2 [] pr ∧ Below A w w' := by
  obtain ⟨a, cap, hc, hown, hp, _⟩ := h.row
  have hA := hp.lt
  have f8 := hp.free 8
  have d0 := he.cell 0
  have d2 := he.cell 2
  obtain ⟨i0, hi0, hz0, hz1, hz2⟩ := info_parts Tryz.infoAst
  have HP := Lib.hid hp
  have HB := Lib.hid hbase
  have HR := Lib.hid hargs
  clear h hp hbase hargs
  go_enter Tryz.func47, Tryz.ntmps47
  go_wp2_with (at_builtin; refine wpList_append_srcB _ rfl _ _ 42 42 rfl (A + 1) 36 i0 .nilIface 1 16 Tryz.underlying42 hi0 hz0 hz1 hz2 rfl _ _ _ _ rfl rfl (hown.alloc _) 1 [.iface 38 (.pointer (some ⟨b, 0, none⟩))] (Src.ofSlice _ Tryz.underlying42 ⟨w.heap.size, 0, none⟩ 1 1 _ rfl (cell_one_new _ _ _) (by simp [Value.oneCell'])) ?c3 (by omega) (by simp; omega) ?_)
  case c3 => unfold maxLen; omega
  intro v1 w1 hown1 hg1 hn1
  have hg' : w.grownBy w1 (Value.slice a inner.length cap).ownBlock := ⟨hg1.os, hg1.tape, hg1.output, by have := hg1.size; simp at this; omega, fun k hk hne => by rw [hg1.block k (by simp; omega) hne, Below.heap_alloc _ _ _ hk]⟩
  obtain ⟨⟨a1, n1, cap1, rfl⟩, k1, k2, k3, k4⟩ := PX.set (inner' := inner ++ [.iface 38 (.pointer (some ⟨b, 0, none⟩))]) HP.out (by simpa using hown1) hg' (by
    rcases hn1 with h | ⟨g, h, hge⟩
    · exact .inl h
    · exact .inr ⟨g, h, by omega⟩)
  have K3 := Lib.hid k3
  have K4 := Lib.hid k4
  clear hown hown1 hg1 hn1 hg' hc k3 k4 f8 d0 d2
  go_wp2_with fail
  refine (HB.out _ K3.out K4.out).mono ?_
  rintro e w2 ⟨rfl, hp2, hb2⟩
  have hbw2 := K4.out.trans hb2
  obtain ⟨a2, cap2, hc2, hown2, hp2', hpos⟩ := hp2.row
  have hlen : (inner ++ [Value.iface 38 (.pointer (some ⟨b, 0, none⟩))]).length = inner.length + 1 := by simp
  rw [hlen] at hc2 hown2 hp2' hpos
  obtain ⟨g2, rfl, hcap2⟩ := hpos (by omega)
  have f8 := hp2'.free 8
  obtain ⟨_, _, _, hset, hbset⟩ := PX.set (inner' := inner) hp2' (own_pop hown2) (World.grownBy.refl _ _) (.inl rfl)
  have HSET := Lib.hid hset
  have HBS := Lib.hid hbset
  clear hb2 hp2 hp2' hown2 hpos hlen hset hbset k1 k2 HB K3 K4
  have hnz : ((inner.length : Int) + 1 == 0) = false := by simp; omega
  go_wp2_with fail
  go_region
  all_goals
    go_wp2_with fail
    refine (writeByteX A _ σ1 inner pr 32 32 rfl HSET.out.drew (by omega)).mono ?_
    rintro e w3 ⟨rfl, hp3, hb3⟩
    have hbw3 := (hbw2.trans (below_drew HBS.out)).trans hb3
    have H3 := Lib.hid hp3
    have HB3 := Lib.hid hbw3
    clear hp3 hb3 hbw3
    go_wp2_with fail
    refine (HR.out _ H3.out HB3.out).mono ?_
    rintro e w4 ⟨rfl, hp4, hb4⟩
    have HP4 := Lib.hid hp4
    have HB4 := Lib.hid (HB3.out.trans hb4)
    clear hp4 hb4
    go_wp2_with fail
    go_end0
    exact ⟨rfl, HP4.out, HB4.out⟩

set_option maxRecDepth 100000 in
set_option maxHeartbeats 2000000 in
/-- FunctionType's print where it names a local: without what it returns. -/
theorem ft_local (A b : Nat) (retv argv : Value) (w : World) (σ σ2 : PS) (inner pr : List Value) (h : PX A w σ inner pr) (he : El A w b #[retv, argv, .bool true] 44) (hep : σ.ep = true) (hv : σ.llvm = false)
    (hargs : ∀ w1, PX A w1 σ inner pr → Below A w w1 →
      Calls Tryz.prog 48 #[.pointer (some ⟨b, 0, none⟩), .pointer (some ⟨A, 0, none⟩)] w1 fun e w2 => e = .returned (.tuple #[]) ∧ PX A w2 σ2 [] pr ∧ Below A w1 w2) :
    Calls Tryz.prog 47 #[.pointer (some ⟨b, 0, none⟩), .pointer (some ⟨A, 0, none⟩)] w fun e w' => e = .returned (.tuple #[]) ∧ PX A w' σ2 [] pr ∧ Below A w w' := by
  obtain ⟨a, cap, hc, hown, hp, _⟩ := h.row
  have d0 := he.cell 0
  have d2 := he.cell 2
  have c1 := hp.cEp
  rw [show ({ σ with iv := .slice a inner.length cap, inner := inner } : PS).ep = true from hep] at c1
  have c2 := hp.cLlvm
  rw [show ({ σ with iv := .slice a inner.length cap, inner := inner } : PS).llvm = false from hv] at c2
  have H := Lib.hid h
  have HR := Lib.hid hargs
  clear h hp hargs hown hc
  go_enter Tryz.func47, Tryz.ntmps47
  go_wp2_with fail
  refine (HR.out _ H.out (Below.refl _ _)).mono ?_
  rintro e w4 ⟨rfl, hp4, hb4⟩
  have HP4 := Lib.hid hp4
  clear hp4
  go_wp2_with fail
  go_end0
  exact ⟨rfl, HP4.out, hb4⟩

/-- The deferred closure: it lays the inner types back. -/
theorem lay_back (A k1 k2 : Nat) (v : Value) (hv : ∃ a n c, v = .slice a n c) (u : FrameMode) (w : World) (h1 : w.cell? ⟨k1, 0, none⟩ = some (.slice none 0 0)) (h2 : w.cell? ⟨k2, 0, none⟩ = some (.pointer (some ⟨A, 0, none⟩))) (h3 : w.cell? ⟨A, 8, none⟩ = some v) (hf : w.frozen? ⟨A, 8, none⟩ = false) :
    CallsD Tryz.prog 38 #[.pointer (some ⟨k1, 0, none⟩), .pointer (some ⟨k2, 0, none⟩)] u w fun e u' w' => u' = u ∧ (e = .returned (.tuple #[]) ∧ w' = w.setCell ⟨A, 8, none⟩ (.slice none 0 0)) := by
  obtain ⟨a, n, c, rfl⟩ := hv
  go_enter_d Tryz.func38, Tryz.ntmps38
  go_wp2
  go_end0
  exact ⟨rfl, rfl⟩

set_option maxRecDepth 100000 in
set_option maxHeartbeats 4000000 in
theorem mTyped_any (A b : Nat) (nm tv : Value) (w : World) (σ σ1 : PS) (pr : List Value) (h : PSt A w σ pr) (hiv : σ.iv = .slice none 0 0) (he : El A w b #[nm, tv] 41)
    (htype : ∀ K w1, PX A w1 { σ with kept := K } [.iface 34 (.pointer (some ⟨b, 0, none⟩))] pr → Below A w w1 →
      Calls Tryz.prog 39 #[.pointer (some ⟨A, 0, none⟩), tv] w1 fun e w2 => e = .returned (.tuple #[]) ∧ PX A w2 { σ1 with kept := K } [] pr ∧ Below A w1 w2) :
    Calls Tryz.prog 37 #[.pointer (some ⟨b, 0, none⟩), .pointer (some ⟨A, 0, none⟩)] w fun e w' => e = .returned (.tuple #[]) ∧ PX A w' { σ1 with kept := σ.kept } [] pr ∧ Below A w w' := by
  have hA := h.lt
  have c8 := h.cInner
  rw [hiv] at c8
  have f8 := h.free 8
  have h2 := ((((h.alloc (.cells #[.pointer (some ⟨A, 0, none⟩)] 61)).alloc (.cells #[.slice none 0 0] 42))).keepOne w.heap.size #[.pointer (some ⟨A, 0, none⟩)] 61 (by
    rw [Below.heap_alloc _ _ _ (by simp), heap_alloc_new]) (by decide) (by decide) (by decide)).keepOne (w.heap.size + 1) #[.slice none 0 0] 42 (by
    have := heap_alloc_new (w.alloc (.cells #[.pointer (some ⟨A, 0, none⟩)] 61)) (.cells #[.slice none 0 0] 42)
    simpa using this) (by decide) (by decide) (by decide)
  generalize hK : (w.heap.size + 1, #[Value.slice none 0 0], 42) :: (w.heap.size, #[Value.pointer (some ⟨A, 0, none⟩)], 61) :: σ.kept = K at h2
  have hrow := World.ownsRow_lit (base := A + 1) (e := 36) (size := 1) ((w.alloc (.cells #[.pointer (some ⟨A, 0, none⟩)] 61)).alloc (.cells #[.slice none 0 0] 42)) #[.iface 34 (.pointer (some ⟨b, 0, none⟩))] 1 (by simp; omega) (by decide) rfl
  obtain ⟨_, _, _, h3, hb3⟩ := PX.set (σ := { σ with kept := K }) (iv := σ.iv) (inner := σ.inner) (inner' := [.iface 34 (.pointer (some ⟨b, 0, none⟩))]) h2 hrow (World.grownBy_alloc _ _ _) (.inr ⟨_, rfl, Nat.le_refl _⟩)
  have hb3 : Below A w _ := (((Below.refl A w).alloc (Nat.le_of_lt hA) (.cells #[.pointer (some ⟨A, 0, none⟩)] 61)).alloc (by simp; omega) (.cells #[.slice none 0 0] 42)).trans hb3
  rw [show ((w.alloc (.cells #[.pointer (some ⟨A, 0, none⟩)] 61)).alloc (.cells #[.slice none 0 0] 42)).heap.size = w.heap.size + 1 + 1 by simp] at h3 hb3
  have hk1 : (w.heap.size + 1, #[Value.slice none 0 0], 42) ∈ K := by rw [← hK]; exact List.mem_cons_self ..
  have hk2 : (w.heap.size, #[Value.pointer (some ⟨A, 0, none⟩)], 61) ∈ K := by rw [← hK]; exact List.mem_cons_of_mem _ (List.mem_cons_self ..)
  have hk3 : ∀ p ∈ σ.kept, p ∈ K := fun p hp => by rw [← hK]; exact List.mem_cons_of_mem _ (List.mem_cons_of_mem _ hp)
  have H3 := Lib.hid h3
  have HB3 := Lib.hid hb3
  have HT := Lib.hid htype
  have HK := Lib.hid (And.intro hk1 (And.intro hk2 hk3))
  have boxOf : ∀ (w' : World) (σ' : PS) (inner : List Value), PX A w' σ' inner pr → σ'.kept = K → w'.cell? ⟨w.heap.size, 0, none⟩ = some (.pointer (some ⟨A, 0, none⟩)) := fun w' σ' inner h' e' => Lib.cell_of_heap (h'.keptAt (by rw [e']; exact hk2)) 0
  have holdOf : ∀ (w' : World) (σ' : PS) (inner : List Value), PX A w' σ' inner pr → σ'.kept = K → w'.cell? ⟨w.heap.size + 1, 0, none⟩ = some (.slice none 0 0) := fun w' σ' inner h' e' => Lib.cell_of_heap (h'.keptAt (by rw [e']; exact hk1)) 0
  have BO := Lib.hid boxOf
  have HO := Lib.hid holdOf
  clear h h2 h3 hb3 htype hk1 hk2 hk3 hK boxOf holdOf hrow
  have hmf : ∀ (fn : Fn) (first cap : Array Value) (w : World), (Instr.makeFunc fn first cap).run Tryz.prog w = .ok (.func fn first cap) w := fun _ _ _ _ => rfl
  go_enter_defers Tryz.func37, Tryz.ntmps37
  go_wp2_with fail
  generalize ((((w.alloc (.cells #[.pointer (some ⟨A, 0, none⟩)] 61)).alloc (.cells #[.slice none 0 0] 42)).alloc (.cells #[.iface 34 (.pointer (some ⟨b, 0, none⟩))] 36)).setCell ⟨A, 8, none⟩ (.slice (some ⟨w.heap.size + 1 + 1, 0, none⟩) 1 1)) = w0 at *
  have b0 := BO.out _ _ _ H3.out rfl
  have e0 : w0.cell? ⟨b, 1, none⟩ = some tv := (he.keep HB3.out).cell 1
  clear c8 f8
  go_still_tail 5, (by kernel_rfl)
  change wpList _ _ _ _ _ w0.drew
  have h1 : PX A w0.drew { σ with kept := K } [.iface 34 (.pointer (some ⟨b, 0, none⟩))] pr := H3.out.drew
  have hb1 : Below A w w0.drew := below_drew HB3.out
  have H1 := Lib.hid h1
  have HB1 := Lib.hid hb1
  clear H3 HB3 b0 e0 h1 hb1
  generalize w0.drew = w1 at *
  go_wp2_with fail
  refine (HT.out K w1 H1.out HB1.out).mono ?_
  rintro e w2 ⟨rfl, hp2, hb2⟩
  have hbw2 := HB1.out.trans hb2
  have b2 := BO.out _ _ _ hp2 rfl
  have g2 := HO.out _ _ _ hp2 rfl
  obtain ⟨a2, cap2, hc2, _⟩ := hp2.row
  have hc2 : w2.cell? ⟨A, 8, none⟩ = some (.slice a2 0 cap2) := hc2
  obtain ⟨iv2, hs2⟩ := id hp2
  have f2 := hs2.free 8
  obtain ⟨h4, hb4⟩ := hp2.setNil
  have h5 := h4.keepLess σ.kept HK.out.2.2
  have H5 := Lib.hid h5
  have HB5 := Lib.hid (hbw2.trans hb4)
  clear H1 HB1 hp2 hb2 hbw2 hs2 h4 hb4 h5
  go_wp2_with fail
  refine leaves_cons (f := 38) (args := #[.pointer (some ⟨w.heap.size + 1, 0, none⟩), .pointer (some ⟨w.heap.size, 0, none⟩)]) (by simp) (by simp [go_sem]) ?_
  refine (lay_back A (w.heap.size + 1) w.heap.size _ ⟨_, _, _, rfl⟩ .returning w2 g2 b2 hc2 f2).mono ?_
  rintro e u' w'' ⟨rfl, rfl, rfl⟩
  exact ⟨_, results_none rfl _ _ _, rfl, H5.out, HB5.out⟩

end Go.Proofs.YtjemnnfnocmjlaaGreat

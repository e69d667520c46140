/-
  Template's print.
-/
import Derived.Test.YtjemnnfnocmjlaaXK
import Derived.Defers
import Derived.StillTailTactics
namespace Go.Proofs.Ytjemnnfnocmjlaa
open Go.RowKit

/-- The inner types are laid back: what the struct holds already. -/
theorem PSt.setNil {A : Nat} {w : World} {σ : PS} {pr : List Value} (h : PSt A w σ pr) (hiv : σ.iv = .slice none 0 0) : PSt A (w.setCell ⟨A, 8, none⟩ (.slice none 0 0)) σ pr := by
  obtain ⟨ad, bv, pv, hA, h1, h2, h3, h4, h5, h6, h7⟩ := h
  exact ⟨ad, bv, pv, by rw [hiv] at hA ⊢; simpa using heap_setCell_same w A 8 _ _ (.slice none 0 0) hA, h1, own_store h2 _ _, h3, own_store h4 _ _, own_store h5 _ _, h6, h7.store hA _ _⟩

theorem below_drew {A : Nat} {w w' : World} (h : Below A w w') : Below A w w'.drew := ⟨h.os, h.tape, h.output, h.size, h.block⟩

theorem mtTemplate (a : Addr) (w : World) : (method 304 114 (.pointer (some a)) "loop.example/pub-g01448/pub/demangle.print").run Try.prog w = .ok (152, .pointer (some a)) w := by kernel_rfl
theorem ccTemplate (args : Array Value) (w : World) : (callFunc 152 args).run Try.prog w = .ok (.enter 152 args) w := by kernel_rfl
theorem ntTemplate : NodeT 114 152 := meth_of 116 2 Try.underlying114 (by kernel_rfl) (by kernel_rfl) (by decide) mtTemplate ccTemplate

/-- The deferred closure: it lays the inner types back. -/
theorem lay_back (A k1 k2 : Nat) (u : FrameMode) (w : World) (h1 : w.cell? ⟨k1, 0, none⟩ = some (.slice none 0 0)) (h2 : w.cell? ⟨k2, 0, none⟩ = some (.pointer (some ⟨A, 0, none⟩))) (h3 : w.cell? ⟨A, 8, none⟩ = some (.slice none 0 0)) (hf : w.frozen? ⟨A, 8, none⟩ = false) :
    CallsD Try.prog 153 #[.pointer (some ⟨k1, 0, none⟩), .pointer (some ⟨k2, 0, none⟩)] u w fun e u' w' => u' = u ∧ (e = .returned (.tuple #[]) ∧ w' = w.setCell ⟨A, 8, none⟩ (.slice none 0 0)) := by
  go_enter_d Try.func153, Try.ntmps153
  go_wp2
  go_end0
  exact ⟨rfl, rfl⟩

/-- A name that does not end in '<'. -/
def OkName (x : ByteArray) : Prop := ∀ σ : PS, ((σ.text x.data.toList).last == 60) = false

set_option maxRecDepth 100000 in
set_option maxHeartbeats 4000000 in
theorem mTemplate_any (A b nb : Nat) (x : ByteArray) (v' : Value) (w : World) (σ σ1 : PS) (pr : List Value) (h : PSt A w σ pr) (hiv : σ.iv = .slice none 0 0) (htp : σ.tp = true)
    (hs1 : σ1.iv = .slice none 0 0) (hl1 : σ1.llvm = true) (he : El A w b #[.iface 97 (.pointer (some ⟨nb, 0, none⟩)), v'] 116) (hn : El A w nb #[.string x] 99) (hok : OkName x)
    (ho : Others A w nb pr) (hl : pr.length ≤ 100000) (hx : σ.out.length + x.size + 1 ≤ 140737488355328) (hx1 : σ1.out.length + 1 ≤ 140737488355328)
    (hargs : ∀ K w1, PSt A w1 { (((σ.text x.data.toList).scope 0).byte 60) with kept := K } pr → Below A w w1 →
      Calls Try.prog 79 #[.pointer (some ⟨A, 0, none⟩), v', .func (.func 154) #[.pointer (some ⟨A, 0, none⟩)] #[]] w1 fun e w2 => e = .returned (.tuple #[]) ∧ PSt A w2 { σ1 with kept := K } pr ∧ Below A w1 w2) :
    Calls Try.prog 152 #[.pointer (some ⟨b, 0, none⟩), .pointer (some ⟨A, 0, none⟩)] w fun e w' => e = .returned (.tuple #[]) ∧ PSt A w' ({ (σ1.byte 62).scope σ.scopes with kept := σ.kept }) pr ∧ Below A w w' := by
  have hA := h.lt
  have c8 := h.cInner
  rw [hiv] at c8
  have f8 := h.free 8
  have h3 := ((((h.setNil hiv).alloc (.cells #[.pointer (some ⟨A, 0, none⟩)] 95)).alloc (.cells #[.slice none 0 0] 57)).keepOne w.heap.size #[.pointer (some ⟨A, 0, none⟩)] 95 (by
    have := heap_alloc_new (w.setCell ⟨A, 8, none⟩ (.slice none 0 0)) (.cells #[.pointer (some ⟨A, 0, none⟩)] 95)
    rw [World.size_setCell] at this
    rw [Below.heap_alloc _ _ _ (by simp), this]) (by decide) (by decide) (by decide)).keepOne (w.heap.size + 1) #[.slice none 0 0] 57 (by
    have := heap_alloc_new ((w.setCell ⟨A, 8, none⟩ (.slice none 0 0)).alloc (.cells #[.pointer (some ⟨A, 0, none⟩)] 95)) (.cells #[.slice none 0 0] 57)
    simpa using this) (by decide) (by decide) (by decide)
  have hb3 : Below A w (((w.setCell ⟨A, 8, none⟩ (.slice none 0 0)).alloc (.cells #[.pointer (some ⟨A, 0, none⟩)] 95)).alloc (.cells #[.slice none 0 0] 57)) := (((Below.refl A w).setCell (p := ⟨A, 8, none⟩) (Nat.le_refl A) _).alloc (by simp; omega) _).alloc (by simp; omega) _
  have H3 := Lib.hid h3
  have HB3 := Lib.hid hb3
  have HA := Lib.hid hargs
  generalize hK : (w.heap.size + 1, #[Value.slice none 0 0], 57) :: (w.heap.size, #[Value.pointer (some ⟨A, 0, none⟩)], 95) :: σ.kept = K at H3
  have hk1 : (w.heap.size + 1, #[Value.slice none 0 0], 57) ∈ K := by rw [← hK]; exact List.mem_cons_self ..
  have hk2 : (w.heap.size, #[Value.pointer (some ⟨A, 0, none⟩)], 95) ∈ K := by rw [← hK]; exact List.mem_cons_of_mem _ (List.mem_cons_self ..)
  have hk3 : ∀ p ∈ σ.kept, p ∈ K := fun p hp => by rw [← hK]; exact List.mem_cons_of_mem _ (List.mem_cons_of_mem _ hp)
  have HK := Lib.hid (And.intro hk1 (And.intro hk2 hk3))
  have boxOf : ∀ (w' : World) (σ' : PS), PSt A w' σ' pr → σ'.kept = K → w'.cell? ⟨w.heap.size, 0, none⟩ = some (.pointer (some ⟨A, 0, none⟩)) := fun w' σ' h' e' => Lib.cell_of_heap (h'.keptAt (by rw [e']; exact hk2)) 0
  have holdOf : ∀ (w' : World) (σ' : PS), PSt A w' σ' pr → σ'.kept = K → w'.cell? ⟨w.heap.size + 1, 0, none⟩ = some (.slice none 0 0) := fun w' σ' h' e' => Lib.cell_of_heap (h'.keptAt (by rw [e']; exact hk1)) 0
  have BO := Lib.hid boxOf
  have HO := Lib.hid holdOf
  clear h h3 hb3 hargs hk1 hk2 hk3 hK boxOf holdOf
  have hmf : ∀ (fn : Fn) (first cap : Array Value) (w : World), (Instr.makeFunc fn first cap).run Try.prog w = .ok (.func fn first cap) w := fun _ _ _ _ => rfl
  go_enter_defers Try.func152, Try.ntmps152
  go_wp2_with fail
  generalize (((w.setCell ⟨A, 8, none⟩ (.slice none 0 0)).alloc (.cells #[.pointer (some ⟨A, 0, none⟩)] 95)).alloc (.cells #[.slice none 0 0] 57)) = w0 at *
  have b0 := BO.out _ _ H3.out rfl
  have e0 : w0.cell? ⟨b, 0, none⟩ = some (.iface 97 (.pointer (some ⟨nb, 0, none⟩))) := (he.keep HB3.out).cell 0
  clear c8 f8
  go_still_tail 5, (by kernel_rfl)
  change wpList _ _ _ _ _ w0.drew
  have h1 : PSt A w0.drew { σ with kept := K } pr := H3.out.drew
  have hb1 : Below A w w0.drew := below_drew HB3.out
  have b1 := BO.out _ _ h1 rfl
  have H1 := Lib.hid h1
  have HB1 := Lib.hid hb1
  clear H3 HB3 b0 e0 h1 hb1
  generalize w0.drew = w1 at *
  go_wp2_with fail
  refine (print_name A nb x w1 { σ with kept := K } pr H1.out (hn.keep HB1.out) (ho.keep HB1.out) hl (by show σ.out.length + _ ≤ _; omega)).mono ?_
  rintro e w2 ⟨rfl, hp2, hb2⟩
  have hbw2 := HB1.out.trans hb2
  have b2 := BO.out _ _ hp2 rfl
  have t2 := hp2.cTp
  rw [show (({ σ with kept := K } : PS).text x.data.toList).tp = true from htp] at t2
  have l2 := hp2.cLast
  have n2 := hok { σ with kept := K }
  have s2 := hp2.cScopes
  rw [show (({ σ with kept := K } : PS).text x.data.toList).scopes = σ.scopes from rfl] at s2
  have f2 := hp2.free 4
  have H2 := Lib.hid hp2
  have HB2 := Lib.hid hbw2
  clear H1 HB1 b1 hp2 hb2 hbw2
  generalize hlast : (({ σ with kept := K } : PS).text x.data.toList).last = la at l2 n2
  clear hlast
  go_wp2_with fail
  have h3 := H2.out.scope 0
  have hb3 : Below A w (w2.setCell ⟨A, 4, none⟩ (.int .i64 0)) := HB2.out.setCell (p := ⟨A, 4, none⟩) (Nat.le_refl A) _
  refine (writeByte_any A _ _ pr 60 60 rfl h3 (by show (σ.out ++ _).length + 1 ≤ _; rw [List.length_append, Array.length_toList]; show _ + x.size + 1 ≤ _; omega)).mono ?_
  rintro e w4 ⟨rfl, hp4, hb4⟩
  have hbw4 := hb3.trans hb4
  have b4 := BO.out _ _ hp4 rfl
  have e4 : w4.cell? ⟨b, 1, none⟩ = some v' := (he.keep hbw4).cell 1
  have H4 := Lib.hid hp4
  have HB4 := Lib.hid hbw4
  clear H2 HB2 b2 t2 l2 n2 s2 f2 h3 hb3 hp4 hb4 hbw4
  go_wp2_with fail
  go_still_tail 7, (by kernel_rfl)
  change wpList _ _ _ _ _ w4.drew
  have h5 := H4.out.drew
  have hb5 : Below A w w4.drew := below_drew HB4.out
  have b5 := BO.out _ _ h5 rfl
  have H5 := Lib.hid h5
  have HB5 := Lib.hid hb5
  clear H4 HB4 b4 e4 h5 hb5
  generalize w4.drew = w5 at *
  go_wp2_with fail
  refine (HA.out K w5 H5.out HB5.out).mono ?_
  rintro e w6 ⟨rfl, hp6, hb6⟩
  have hbw6 := HB5.out.trans hb6
  have b6 := BO.out _ _ hp6 rfl
  have l6 := hp6.cLast
  rw [show ({ σ1 with kept := K } : PS).last = σ1.last from rfl] at l6
  have v6 := hp6.cLlvm
  rw [show ({ σ1 with kept := K } : PS).llvm = true from hl1] at v6
  have H6 := Lib.hid hp6
  have HB6 := Lib.hid hbw6
  have HOK := Lib.hid (show (({ (σ1.byte 62).scope σ.scopes with kept := K } : PS).iv = .slice none 0 0) from hs1)
  clear H5 HB5 b5 hp6 hb6 hbw6 HA
  generalize hla : σ1.last = lb at l6
  clear hla
  cases hq : (lb == 62)
  all_goals
    go_wp2_with fail
    refine (writeByte_any A _ _ pr 62 62 rfl H6.out hx1).mono ?_
    rintro e w7 ⟨rfl, hp7, hb7⟩
    have hbw7 := HB6.out.trans hb7
    have b7 := BO.out _ _ hp7 rfl
    have f7 := hp7.free 4
    have s7 := hp7.cScopes
    have h8 := hp7.scope σ.scopes
    have hb8 : Below A w (w7.setCell ⟨A, 4, none⟩ (.int .i64 σ.scopes)) := hbw7.setCell (p := ⟨A, 4, none⟩) (Nat.le_refl A) _
    have H8 := Lib.hid h8
    have HB8 := Lib.hid hb8
    clear H6 HB6 b6 l6 v6 hp7 hb7 hbw7 h8 hb8
    go_wp2_with fail
    generalize w7.setCell ⟨A, 4, none⟩ (.int .i64 σ.scopes) = w8 at *
    refine leaves_cons (f := 153) (args := #[.pointer (some ⟨w.heap.size + 1, 0, none⟩), .pointer (some ⟨w.heap.size, 0, none⟩)]) (by simp) (by simp [go_sem]) ?_
    refine (lay_back A (w.heap.size + 1) w.heap.size .returning w8 (HO.out _ _ H8.out rfl) (BO.out _ _ H8.out rfl) (by rw [H8.out.cInner]; exact congrArg some hs1) (H8.out.free 8)).mono ?_
    rintro e u' w'' ⟨rfl, rfl, rfl⟩
    refine ⟨_, results_none rfl _ _ _, rfl, ?_, HB8.out.setCell (p := ⟨A, 8, none⟩) (Nat.le_refl A) _⟩
    exact ((H8.out.setNil hs1).keepLess σ.kept HK.out.2.2)

end Go.Proofs.Ytjemnnfnocmjlaa

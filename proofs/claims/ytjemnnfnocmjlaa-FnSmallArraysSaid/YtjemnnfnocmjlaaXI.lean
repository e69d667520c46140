/-
  Array types over a builtin type: what they are printed to.
-/
import Derived.Test.YtjemnnfnocmjlaaXE
namespace Go.Proofs.Ytjemnnfnocmjlaa
open Go.RowKit

/-- Array types over the builtin type s, the outer length first: the type and the block of the outer element. -/
def Arr (A : Nat) (w : World) (s : ByteArray) : List ByteArray → TypeId → FuncId → Nat → Prop
  | [], T, f, b => (T = 100 ∧ f = 128) ∧ El A w b #[.string s] 101
  | x :: rest, T, f, b => (T = 105 ∧ f = 135) ∧ ∃ T' f' b' nb, b' < b ∧
      El A w b #[.iface 97 (.pointer (some ⟨nb, 0, none⟩)), .iface T' (.pointer (some ⟨b', 0, none⟩))] 107 ∧ El A w nb #[.string x] 99 ∧ Arr A w s rest T' f' b'

theorem El.grow {A A' b T : Nat} {w w' : World} {cs : Array Value} (h : El A w b cs T) (hA : A ≤ A') (hb : Below A w w') : El A' w' b cs T := ⟨by have := h.lt; omega, (h.keep hb).heap⟩

theorem Arr.grow {A A' : Nat} {w w' : World} {s : ByteArray} {l : List ByteArray} {T f b : Nat} (h : Arr A w s l T f b) (hA : A ≤ A') (hb : Below A w w') : Arr A' w' s l T f b := by
  induction l generalizing T f b with
  | nil => exact ⟨h.1, h.2.grow hA hb⟩
  | cons x l ih =>
    obtain ⟨h1, T', f', b', nb, hlt, he, hn, hc⟩ := h
    exact ⟨h1, T', f', b', nb, hlt, he.grow hA hb, hn.grow hA hb, ih hc⟩

theorem Arr.lt {A : Nat} {w : World} {s : ByteArray} {l : List ByteArray} {T f b : Nat} (h : Arr A w s l T f b) : b < A := by
  cases l with
  | nil => exact h.2.lt
  | cons x l => obtain ⟨_, _, _, _, _, _, he, _⟩ := h; exact he.lt

/-- An array type at block b, of the length x. -/
def ArrN (A : Nat) (w : World) (b : Nat) (x : ByteArray) : Prop := ∃ nb v, El A w b #[.iface 97 (.pointer (some ⟨nb, 0, none⟩)), v] 107 ∧ El A w nb #[.string x] 99

theorem ArrN.keep {A b : Nat} {x : ByteArray} {w w' : World} (h : ArrN A w b x) (hb : Below A w w') : ArrN A w' b x := by
  obtain ⟨nb, v, he, hn⟩ := h
  exact ⟨nb, v, he.keep hb, hn.keep hb⟩

/-- The inner types: the nearest first. -/
def insV : List (Nat × ByteArray) → List Value
  | [] => []
  | p :: l => insV l ++ [.iface 105 (.pointer (some ⟨p.1, 0, none⟩))]

theorem insV_len (l : List (Nat × ByteArray)) : (insV l).length = l.length := by
  induction l with
  | nil => rfl
  | cons p l ih => simp [insV, ih]

/-- What is being printed is array types. -/
def PrA (A : Nat) (w : World) (pr : List Value) : Prop := ∀ u ∈ pr, ∃ b' c, u = .iface 105 (.pointer (some ⟨b', 0, none⟩)) ∧ El A w b' c 107

theorem PrA.keep {A : Nat} {w w' : World} {pr : List Value} (h : PrA A w pr) (hb : Below A w w') : PrA A w' pr := fun u hu => by
  obtain ⟨b', c, e, he⟩ := h u hu
  exact ⟨b', c, e, he.keep hb⟩

theorem PrA.snoc {A b : Nat} {c : Array Value} {w : World} {pr : List Value} (h : PrA A w pr) (he : El A w b c 107) : PrA A w (pr ++ [.iface 105 (.pointer (some ⟨b, 0, none⟩))]) := fun u hu => by
  rcases List.mem_append.1 hu with hu | hu
  · exact h u hu
  · simp at hu
    exact ⟨b, c, hu, he⟩

theorem PrA.nil {A : Nat} {w : World} : PrA A w [] := fun u hu => by simp at hu

/-- What is not an array type is none of them. -/
theorem PrA.others {A b T : Nat} {c : Array Value} {w : World} {pr : List Value} (h : PrA A w pr) (he : El A w b c T) (hT : T ≠ 107) : Others A w b pr := fun u hu => by
  obtain ⟨b', c', e, he'⟩ := h u hu
  refine ⟨_, b', e, he'.node, fun eb => ?_⟩
  subst eb
  have := he.heap.symm.trans he'.heap
  simp at this
  exact hT this.2

def emptyW : ByteArray := ⟨#[]⟩
def spaceW : ByteArray := ⟨#[32]⟩

/-- Their lengths. -/
def insT : List (Nat × ByteArray) → List ByteArray
  | [] => []
  | p :: l => p.2 :: insT l

/-- The blank ahead of the first length. -/
def dimPre : List ByteArray → ByteArray
  | [] => spaceW
  | _ :: _ => emptyW

/-- The state behind the lengths, the last one first. -/
def dimSt (σ : PS) : List ByteArray → PS
  | [] => σ
  | x :: l => ((((dimSt σ l).text (dimPre l).data.toList).byte 91).text x.data.toList).byte 93

/-- How many bytes they take, at most. -/
def dimLen : List ByteArray → Nat
  | [] => 0
  | x :: l => dimLen l + x.size + 3

theorem dimPre_len (l : List ByteArray) : (dimPre l).data.toList.length ≤ 1 := by
  cases l with
  | nil => decide
  | cons p l => show emptyW.data.toList.length ≤ 1; decide

theorem dimSt_len (σ : PS) (l : List ByteArray) : (dimSt σ l).out.length ≤ σ.out.length + dimLen l := by
  induction l with
  | nil => exact Nat.le_refl _
  | cons x l ih =>
    have := dimPre_len l
    have hp : x.data.toList.length = x.size := Array.length_toList
    simp only [dimSt, PS.byte_out, PS.text_out, List.length_append, dimLen, List.length_cons, List.length_nil, hp]
    omega

theorem dimLen_append (l l' : List ByteArray) : dimLen (l ++ l') = dimLen l + dimLen l' := by
  induction l with
  | nil => simp [dimLen]
  | cons x l ih => simp only [List.cons_append, dimLen, ih]; omega

theorem dimLen_reverse (l : List ByteArray) : dimLen l.reverse = dimLen l := by
  induction l with
  | nil => rfl
  | cons x l ih => simp only [List.reverse_cons, dimLen_append, ih, dimLen]; omega

theorem mtArrayType (a : Addr) (w : World) : (method 304 105 (.pointer (some a)) "loop.example/pub-g01448/pub/demangle.print").run Try.prog w = .ok (135, .pointer (some a)) w := by kernel_rfl
theorem ccArrayType (args : Array Value) (w : World) : (callFunc 135 args).run Try.prog w = .ok (.enter 135 args) w := by kernel_rfl
theorem ntArrayType : NodeT 105 135 := meth_of 107 2 Try.underlying105 (by kernel_rfl) (by kernel_rfl) (by decide) mtArrayType ccArrayType
theorem iaArrayType (p : Value) (w : World) : (Instr.typeAssert (.iface 105 p) 49 173 true).run Try.prog w = .ok (.tuple #[.iface 105 p, .bool true]) w := by kernel_rfl
theorem ibArrayType (p : Value) (w : World) : (Instr.typeAssert (.iface 105 p) 49 173 false).run Try.prog w = .ok (.iface 105 p) w := by kernel_rfl
theorem imArrayType (a : Addr) (w : World) : (method 304 105 (.pointer (some a)) "loop.example/pub-g01448/pub/demangle.printInner").run Try.prog w = .ok (136, .pointer (some a)) w := by kernel_rfl
theorem icArrayType (args : Array Value) (w : World) : (callFunc 136 args).run Try.prog w = .ok (.enter 136 args) w := by kernel_rfl
theorem inArrayType : InnerT 105 136 := ⟨iaArrayType, ibArrayType, imArrayType, icArrayType⟩

theorem eq_same {w : World} {T f : Nat} (ht : NodeT T f) (b : Nat) :
    (binOp .eql 49 (.iface T (.pointer (some ⟨b, 0, none⟩))) (.iface T (.pointer (some ⟨b, 0, none⟩)))).run Try.prog w = .ok (.bool true) w := by
  obtain ⟨te, i, j, h1, h2, h3, h4, h5⟩ := ht.ptr
  exact run_eql_iface_ptr_same w ⟨b, 0, none⟩ Try.underlying49 h1 h2 h3 h4

theorem asTwq (p : Value) (w : World) : (Instr.typeAssert (.iface 105 p) 49 180 true).run Try.prog w = .ok (.tuple #[.pointer none, .bool false]) w := by kernel_rfl
theorem asArr (p : Value) (w : World) : (Instr.typeAssert (.iface 105 p) 49 105 true).run Try.prog w = .ok (.tuple #[p, .bool true]) w := by kernel_rfl

set_option maxRecDepth 100000 in
set_option maxHeartbeats 2000000 in
theorem dim_nil (A b : Nat) (x : ByteArray) (w : World) (σ : PS) (pr : List Value) (h : PX A w σ [] pr) (he : ArrN A w b x) (hpr : PrA A w pr) (hl : pr.length ≤ 100000) (ho : σ.out.length + x.size + 3 ≤ 140737488355328) :
    Calls Try.prog 137 #[.pointer (some ⟨b, 0, none⟩), .pointer (some ⟨A, 0, none⟩)] w fun e w' => e = .returned (.tuple #[]) ∧ PX A w' (dimSt σ [x]) [] pr ∧ Below A w w' := by
  obtain ⟨nb, v1, he, hn⟩ := he
  obtain ⟨a, cap, hc, hown, hp, hpos⟩ := h.row
  have H := Lib.hid h
  clear h hown hp hpos
  go_enter Try.func137, Try.ntmps137
  go_wp2_with fail
  refine wp_loop_rounds 1 ?_
  rw [rounds_succ]
  go_wp2_with fail
  change Calls Try.prog 63 #[.pointer (some ⟨A, 0, none⟩), .string spaceW] w _
  refine (writeStringX A w σ [] pr spaceW H.out (by rw [show spaceW.size = 1 from rfl]; omega)).mono ?_
  rintro e w1 ⟨rfl, hp1, hb1⟩
  go_wp2_with fail
  refine (writeByteX A w1 _ [] pr 91 91 rfl hp1 (by rw [PS.text_out, List.length_append, show spaceW.data.toList.length = 1 from rfl]; omega)).mono ?_
  rintro e w2 ⟨rfl, hp2, hb2⟩
  have hbw := hb1.trans hb2
  have c0 : w2.cell? ⟨b, 0, none⟩ = some (.iface 97 (.pointer (some ⟨nb, 0, none⟩))) := (he.keep hbw).cell 0
  go_wp2_with fail
  refine (print_nameX A nb x w2 _ [] pr hp2 (hn.keep hbw) ((hpr.keep hbw).others (hn.keep hbw) (by decide)) hl (by rw [PS.byte_out, PS.text_out, List.length_append, List.length_append, show spaceW.data.toList.length = 1 from rfl]; simp; omega)).mono ?_
  rintro e w3 ⟨rfl, hp3, hb3⟩
  go_wp2_with fail
  refine (writeByteX A w3 _ [] pr 93 93 rfl hp3 (by rw [PS.text_out, PS.byte_out, PS.text_out, List.length_append, List.length_append, List.length_append, show spaceW.data.toList.length = 1 from rfl, Array.length_toList]; show _ + _ + x.size + _ ≤ _; simp; omega)).mono ?_
  rintro e w4 ⟨rfl, hp4, hb4⟩
  go_wp2_with fail
  go_end0
  exact ⟨rfl, hp4, (hbw.trans hb3).trans hb4⟩

set_option maxHeartbeats 1000000 in
theorem dim_inner (A b : Nat) (w : World) (P : Ending → World → Prop) (h : Calls Try.prog 137 #[.pointer (some ⟨b, 0, none⟩), .pointer (some ⟨A, 0, none⟩)] w fun e w' => e = .returned (.tuple #[]) ∧ P e w') :
    Calls Try.prog 136 #[.pointer (some ⟨b, 0, none⟩), .pointer (some ⟨A, 0, none⟩)] w fun e w' => e = .returned (.tuple #[]) ∧ P e w' := by
  have H := Lib.hid h
  clear h
  go_enter Try.func136, Try.ntmps136
  go_wp2_with fail
  refine H.out.mono ?_
  rintro e w1 ⟨rfl, hp⟩
  have HP := Lib.hid hp
  clear hp
  go_wp2_with fail
  go_end0
  exact ⟨rfl, HP.out⟩

set_option maxRecDepth 100000 in
set_option maxHeartbeats 2000000 in
theorem dim_cons (A b : Nat) (x : ByteArray) (p : Nat × ByteArray) (l : List (Nat × ByteArray)) (w : World) (σ : PS) (pr : List Value) (h : PX A w σ (insV (p :: l)) pr) (he : ArrN A w b x) (hpr : PrA A w pr) (hl : pr.length ≤ 100000) (hll : l.length ≤ 100000) (ho : σ.out.length + dimLen (insT (p :: l)) + x.size + 3 ≤ 140737488355328)
    (ih : ∀ w1, PX A w1 σ (insV l) pr → Below A w w1 →
      Calls Try.prog 137 #[.pointer (some ⟨p.1, 0, none⟩), .pointer (some ⟨A, 0, none⟩)] w1 fun e w2 => e = .returned (.tuple #[]) ∧ PX A w2 (dimSt σ (insT (p :: l))) [] pr ∧ Below A w1 w2) :
    Calls Try.prog 137 #[.pointer (some ⟨b, 0, none⟩), .pointer (some ⟨A, 0, none⟩)] w fun e w' => e = .returned (.tuple #[]) ∧ PX A w' (dimSt σ (x :: insT (p :: l))) [] pr ∧ Below A w w' := by
  obtain ⟨nb, v1, he, hn⟩ := he
  obtain ⟨a, cap, hc, hown, hp, hpos⟩ := h.row
  have hlen : (insV (p :: l)).length = l.length + 1 := insV_len _
  rw [hlen] at hc hown hpos
  obtain ⟨g, rfl, hcap⟩ := hpos (by omega)
  have hel : w.cell? ⟨g, l.length, none⟩ = some (.iface 105 (.pointer (some ⟨p.1, 0, none⟩))) := by
    rw [hown.cellAt l.length (by omega)]
    simp [insV, insV_len]
  have H := Lib.hid h
  have IH := Lib.hid ih
  have hd := dimSt_len σ (insT (p :: l))
  have q1 := asTwq (.pointer (some ⟨p.1, 0, none⟩))
  have q2 := asArr (.pointer (some ⟨p.1, 0, none⟩))
  clear h hown hp hpos hlen ih
  go_enter Try.func137, Try.ntmps137
  go_wp2_with fail
  refine wp_loop_rounds 2 ?_
  rw [rounds_succ]
  go_wp2_with fail
  go_quiet (fail)
  have hb0 : Below A w (w.drewN nq) := below_drewN (Below.refl A w) nq
  have h0 : PX A (w.drewN nq) σ (insV (p :: l)) pr := H.out.drewN nq
  have hc0 : (w.drewN nq).cell? ⟨A, 8, none⟩ = some (.slice (some ⟨g, 0, none⟩) (l.length + 1) cap) := hc
  have hel0 : (w.drewN nq).cell? ⟨g, l.length, none⟩ = some (.iface 105 (.pointer (some ⟨p.1, 0, none⟩))) := hel
  have H0 := Lib.hid h0
  have HB0 := Lib.hid hb0
  clear H hc hel h0 hb0
  generalize w.drewN nq = w0 at *
  have q3 : ∀ w : World, (binOp .eql 49 (.iface 105 (.pointer (some ⟨p.1, 0, none⟩))) (.iface 105 (.pointer (some ⟨p.1, 0, none⟩)))).run Try.prog w = .ok (.bool true) w := fun w => eq_same ntArrayType p.1
  go_wp2_with fail
  go_quiet (fail)
  have hb1 : Below A w (w0.drewN nq) := below_drewN HB0.out nq
  have h1 : PX A (w0.drewN nq) σ (insV (p :: l)) pr := H0.out.drewN nq
  have H1 := Lib.hid h1
  have HB1 := Lib.hid hb1
  clear H0 HB0 hc0 hel0 h1 hb1 q1 q2 q3
  generalize w0.drewN nq = w1 at *
  go_wp2_with fail
  refine (printOne_any A 105 p.1 136 w1 σ (dimSt σ (insT (p :: l))) (insV l) [] pr H1.out inArrayType (by rw [insV_len]; exact hll) (fun w2 h2 hb2 => dim_inner A p.1 w2 (fun _ w3 => PX A w3 (dimSt σ (insT (p :: l))) [] pr ∧ Below A w2 w3) (IH.out w2 h2 (HB1.out.trans hb2)))).mono ?_
  rintro e w2 ⟨rfl, hp2, hb2⟩
  have hbw2 := HB1.out.trans hb2
  obtain ⟨a2, cap2, hc2, hown2, hpp2, hpos2⟩ := hp2.row
  have H2 := Lib.hid hp2
  clear hp2 hown2 hpp2 hpos2 hb2 H1 HB1 IH
  go_wp2_with fail
  rw [rounds_succ]
  go_wp2_with fail
  change Calls Try.prog 63 #[.pointer (some ⟨A, 0, none⟩), .string emptyW] w2 _
  have hp2 := H2.out
  clear H2 hc2
  have hb2 := hbw2
  refine (writeStringX A w2 _ [] pr emptyW hp2 (by rw [show emptyW.size = 0 from rfl]; omega)).mono ?_
  rintro e w3 ⟨rfl, hp3, hb3⟩
  go_wp2_with fail
  refine (writeByteX A w3 _ [] pr 91 91 rfl hp3 (by rw [PS.text_out, List.length_append, show emptyW.data.toList.length = 0 from rfl]; omega)).mono ?_
  rintro e w4 ⟨rfl, hp4, hb4⟩
  have hbw := (hbw2.trans hb3).trans hb4
  have c0 : w4.cell? ⟨b, 0, none⟩ = some (.iface 97 (.pointer (some ⟨nb, 0, none⟩))) := (he.keep hbw).cell 0
  go_wp2_with fail
  refine (print_nameX A nb x w4 _ [] pr hp4 (hn.keep hbw) ((hpr.keep hbw).others (hn.keep hbw) (by decide)) hl (by rw [PS.byte_out, PS.text_out, List.length_append, List.length_append, show emptyW.data.toList.length = 0 from rfl]; simp; omega)).mono ?_
  rintro e w5 ⟨rfl, hp5, hb5⟩
  go_wp2_with fail
  refine (writeByteX A w5 _ [] pr 93 93 rfl hp5 (by rw [PS.text_out, PS.byte_out, PS.text_out, List.length_append, List.length_append, List.length_append, show emptyW.data.toList.length = 0 from rfl, Array.length_toList]; show _ + _ + x.size + _ ≤ _; simp; omega)).mono ?_
  rintro e w6 ⟨rfl, hp6, hb6⟩
  go_wp2_with fail
  go_end0
  exact ⟨rfl, hp6, (hbw.trans hb5).trans hb6⟩

theorem dim_any (A : Nat) (l : List (Nat × ByteArray)) : ∀ (b : Nat) (x : ByteArray) (w : World) (σ : PS) (pr : List Value), PX A w σ (insV l) pr → (∀ p ∈ l, ArrN A w p.1 p.2) → ArrN A w b x → PrA A w pr → pr.length ≤ 100000 → l.length ≤ 100000 → σ.out.length + dimLen (insT l) + x.size + 3 ≤ 140737488355328 →
    Calls Try.prog 137 #[.pointer (some ⟨b, 0, none⟩), .pointer (some ⟨A, 0, none⟩)] w fun e w' => e = .returned (.tuple #[]) ∧ PX A w' (dimSt σ (x :: insT l)) [] pr ∧ Below A w w' := by
  induction l with
  | nil =>
    intro b x w σ pr h _ he hpr hl hll ho
    exact dim_nil A b x w σ pr h he hpr hl (by simpa [insT, dimLen] using ho)
  | cons p l ih =>
    intro b x w σ pr h hi he hpr hl hll ho
    simp at hll
    refine dim_cons A b x p l w σ pr h he hpr hl (by omega) ho fun w1 h1 hb1 => ?_
    exact ih p.1 p.2 w1 σ pr h1 (fun q hq => (hi q (List.mem_cons_of_mem _ hq)).keep hb1) ((hi p (List.mem_cons_self ..)).keep hb1) (hpr.keep hb1) hl (by omega) (by simp only [insT, dimLen] at ho; omega)

set_option maxRecDepth 100000 in
set_option maxHeartbeats 2000000 in
/-- ArrayType's print over what consumes nothing. -/
theorem mArr_base (A b : Nat) (x : ByteArray) (nm el : Value) (l : List (Nat × ByteArray)) (w : World) (σ σ1 : PS) (pr : List Value) (h : PX A w σ (insV l) pr) (he : El A w b #[nm, el] 107) (hn : ArrN A w b x) (hi : ∀ p ∈ l, ArrN A w p.1 p.2) (hpr : PrA A w pr) (hl : pr.length ≤ 100000) (hll : l.length ≤ 100000)
    (ho : σ1.out.length + dimLen (insT l) + x.size + 3 ≤ 140737488355328)
    (hbase : ∀ w1, PX A w1 σ (insV ((b, x) :: l)) pr → Below A w w1 →
      Calls Try.prog 60 #[.pointer (some ⟨A, 0, none⟩), el] w1 fun e w2 => e = .returned (.tuple #[]) ∧ PX A w2 σ1 (insV ((b, x) :: l)) pr ∧ Below A w1 w2) :
    Calls Try.prog 135 #[.pointer (some ⟨b, 0, none⟩), .pointer (some ⟨A, 0, none⟩)] w fun e w' => e = .returned (.tuple #[]) ∧ PX A w' (dimSt σ1 (x :: insT l)) [] pr ∧ Below A w w' := by
  obtain ⟨a, cap, hc, hown, hp, _⟩ := h.row
  rw [insV_len] at hc hown hp
  have hA := hp.lt
  have f8 := hp.free 8
  obtain ⟨i0, hi0, hz0, hz1, hz2⟩ := info_parts Try.infoAst
  have HP := Lib.hid hp
  have HB := Lib.hid hbase
  clear h hp hbase
  go_enter Try.func135, Try.ntmps135
  go_wp2_with (at_builtin; refine wpList_append_srcB _ rfl _ _ 57 57 rfl (A + 1) 49 i0 .nilIface 1 16 Try.underlying57 hi0 hz0 hz1 hz2 rfl _ _ _ _ rfl rfl (hown.alloc _) 1 [.iface 105 (.pointer (some ⟨b, 0, none⟩))] (Src.ofSlice _ Try.underlying57 ⟨w.heap.size, 0, none⟩ 1 1 _ rfl (cell_one_new _ _ _) (by simp [Value.oneCell'])) ?c3 (by omega) (by simp; omega) ?_)
  case c3 => unfold maxLen; omega
  intro v1 w1 hown1 hg1 hn1
  have hg' : w.grownBy w1 (Value.slice a l.length cap).ownBlock := ⟨hg1.os, hg1.tape, hg1.output, by have := hg1.size; simp at this; omega, fun k hk hne => by rw [hg1.block k (by simp; omega) hne, Below.heap_alloc _ _ _ hk]⟩
  obtain ⟨⟨a1, n1, cap1, rfl⟩, k1, k2, k3, k4⟩ := PX.set (inner' := insV ((b, x) :: l)) HP.out (by rw [insV_len]; exact hown1) hg' (by
    rcases hn1 with h | ⟨g, h, hge⟩
    · exact .inl h
    · exact .inr ⟨g, h, by omega⟩)
  have K3 := Lib.hid k3
  have K4 := Lib.hid k4
  have c1 := (he.keep k4).cell 1
  clear hown hown1 hg1 hn1 hg' hc k3 k4 f8
  go_wp2_with fail
  refine (HB.out _ K3.out K4.out).mono ?_
  rintro e w2 ⟨rfl, hp2, hb2⟩
  have hbw2 := K4.out.trans hb2
  obtain ⟨a2, cap2, hc2, hown2, hp2', hpos⟩ := hp2.row
  have hlen : (insV ((b, x) :: l)).length = l.length + 1 := insV_len _
  rw [hlen] at hc2 hown2 hp2' hpos
  obtain ⟨g2, rfl, hcap2⟩ := hpos (by omega)
  have f8 := hp2'.free 8
  obtain ⟨_, _, _, hset, hbset⟩ := PX.set (v1 := .slice (some ⟨g2, 0, none⟩) l.length cap2) (inner' := insV l) hp2' (by
    rw [insV_len]
    exact own_pop (xs := insV l) hown2) (World.grownBy.refl _ _) (.inl rfl)
  have HSET := Lib.hid hset
  have HBS := Lib.hid hbset
  have hbw3 := hbw2.trans hbset
  clear hb2 hp2 hp2' hown2 hpos hlen hset hbset k1 k2
  go_wp2_with fail
  refine (dim_any A l b x _ σ1 pr HSET.out (fun p hp => (hi p hp).keep hbw3) (hn.keep hbw3) (hpr.keep hbw3) hl hll ho).mono ?_
  rintro e w4 ⟨rfl, hp4, hb4⟩
  go_wp2_with fail
  go_end0
  exact ⟨rfl, hp4, hbw3.trans hb4⟩

set_option maxRecDepth 100000 in
set_option maxHeartbeats 2000000 in
/-- ArrayType's print over what consumes all inner types. -/
theorem mArr_over (A b : Nat) (x : ByteArray) (nm el : Value) (l : List (Nat × ByteArray)) (w : World) (σ σ1 : PS) (pr : List Value) (h : PX A w σ (insV l) pr) (he : El A w b #[nm, el] 107) (hll : l.length ≤ 100000)
    (hbase : ∀ w1, PX A w1 σ (insV ((b, x) :: l)) pr → Below A w w1 →
      Calls Try.prog 60 #[.pointer (some ⟨A, 0, none⟩), el] w1 fun e w2 => e = .returned (.tuple #[]) ∧ PX A w2 σ1 [] pr ∧ Below A w1 w2) :
    Calls Try.prog 135 #[.pointer (some ⟨b, 0, none⟩), .pointer (some ⟨A, 0, none⟩)] w fun e w' => e = .returned (.tuple #[]) ∧ PX A w' σ1 [] pr ∧ Below A w w' := by
  obtain ⟨a, cap, hc, hown, hp, _⟩ := h.row
  rw [insV_len] at hc hown hp
  have hA := hp.lt
  have f8 := hp.free 8
  obtain ⟨i0, hi0, hz0, hz1, hz2⟩ := info_parts Try.infoAst
  have HP := Lib.hid hp
  have HB := Lib.hid hbase
  clear h hp hbase
  go_enter Try.func135, Try.ntmps135
  go_wp2_with (at_builtin; refine wpList_append_srcB _ rfl _ _ 57 57 rfl (A + 1) 49 i0 .nilIface 1 16 Try.underlying57 hi0 hz0 hz1 hz2 rfl _ _ _ _ rfl rfl (hown.alloc _) 1 [.iface 105 (.pointer (some ⟨b, 0, none⟩))] (Src.ofSlice _ Try.underlying57 ⟨w.heap.size, 0, none⟩ 1 1 _ rfl (cell_one_new _ _ _) (by simp [Value.oneCell'])) ?c3 (by omega) (by simp; omega) ?_)
  case c3 => unfold maxLen; omega
  intro v1 w1 hown1 hg1 hn1
  have hg' : w.grownBy w1 (Value.slice a l.length cap).ownBlock := ⟨hg1.os, hg1.tape, hg1.output, by have := hg1.size; simp at this; omega, fun k hk hne => by rw [hg1.block k (by simp; omega) hne, Below.heap_alloc _ _ _ hk]⟩
  obtain ⟨⟨a1, n1, cap1, rfl⟩, k1, k2, k3, k4⟩ := PX.set (inner' := insV ((b, x) :: l)) HP.out (by rw [insV_len]; exact hown1) hg' (by
    rcases hn1 with h | ⟨g, h, hge⟩
    · exact .inl h
    · exact .inr ⟨g, h, by omega⟩)
  have K3 := Lib.hid k3
  have K4 := Lib.hid k4
  have c1 := (he.keep k4).cell 1
  clear hown hown1 hg1 hn1 hg' hc k3 k4 f8
  go_wp2_with fail
  refine (HB.out _ K3.out K4.out).mono ?_
  rintro e w2 ⟨rfl, hp2, hb2⟩
  have hbw2 := K4.out.trans hb2
  obtain ⟨a2, cap2, hc2, hown2, hp2', hpos⟩ := hp2.row
  clear hb2 hp2' hown2 hpos k1 k2
  have HP2 := Lib.hid hp2
  clear hp2
  go_wp2_with fail
  go_end0
  exact ⟨rfl, HP2.out, hbw2⟩

/-- Array types by printState.print: what they leave of the inner types. -/
def insOver (l : List (Nat × ByteArray)) : List ByteArray → List Value
  | [] => insV l
  | _ :: _ => []

/-- .. and the state. -/
def arrSt (σ : PS) (s : ByteArray) (l : List (Nat × ByteArray)) : List ByteArray → PS
  | [] => σ.text s.data.toList
  | x :: rest => dimSt (σ.text s.data.toList) ((x :: rest).reverse ++ insT l)

theorem AbA.others {A b : Nat} {w : World} {pr : List Value} (h : Above A w b pr) : Others A w b pr := h.others

set_option maxHeartbeats 1000000 in
/-- ArrayType's print, given what is below it. -/
theorem mArr_any (A : Nat) (s x : ByteArray) (rest : List ByteArray) (l : List (Nat × ByteArray)) (T' b b' nb : Nat) (w : World) (σ : PS) (pr : List Value) (h : PX A w σ (insV l) pr)
    (he : El A w b #[.iface 97 (.pointer (some ⟨nb, 0, none⟩)), .iface T' (.pointer (some ⟨b', 0, none⟩))] 107) (hn : El A w nb #[.string x] 99) (hi : ∀ p ∈ l, ArrN A w p.1 p.2) (hpr : PrA A w pr)
    (hl : pr.length ≤ 100000) (hll : l.length ≤ 100000) (ho : σ.out.length + s.size + dimLen (x :: rest) + dimLen (insT l) ≤ 140737488355328)
    (hbase : ∀ w1, PX A w1 σ (insV ((b, x) :: l)) pr → Below A w w1 →
      Calls Try.prog 60 #[.pointer (some ⟨A, 0, none⟩), .iface T' (.pointer (some ⟨b', 0, none⟩))] w1 fun e w2 => e = .returned (.tuple #[]) ∧ PX A w2 (arrSt σ s ((b, x) :: l) rest) (insOver ((b, x) :: l) rest) pr ∧ Below A w1 w2) :
    Calls Try.prog 135 #[.pointer (some ⟨b, 0, none⟩), .pointer (some ⟨A, 0, none⟩)] w fun e w' => e = .returned (.tuple #[]) ∧ PX A w' (arrSt σ s l (x :: rest)) [] pr ∧ Below A w w' := by
  cases rest with
  | nil =>
    refine mArr_base A b x _ _ l w σ (σ.text s.data.toList) pr h he ⟨nb, _, he, hn⟩ hi hpr hl hll ?_ hbase
    rw [PS.text_out, List.length_append, Array.length_toList]
    simp only [dimLen] at ho
    show _ + s.size + _ + _ + _ ≤ _
    omega
  | cons y rest =>
    have e : arrSt σ s l (x :: y :: rest) = arrSt σ s ((b, x) :: l) (y :: rest) := by
      show dimSt _ ((x :: y :: rest).reverse ++ insT l) = dimSt _ ((y :: rest).reverse ++ (x :: insT l))
      rw [List.reverse_cons, List.append_assoc]
      rfl
    rw [e]
    exact mArr_over A b x _ _ l w σ _ pr h he hll hbase

theorem print_arr (A : Nat) (s : ByteArray) (ls : List ByteArray) : ∀ (T f b : Nat) (w : World) (σ : PS) (l : List (Nat × ByteArray)) (pr : List Value), Arr A w s ls T f b → PX A w σ (insV l) pr → (∀ p ∈ l, ArrN A w p.1 p.2) → PrA A w pr → σ.llvm = false → Above A w b pr →
    l.length + ls.length ≤ 100000 → pr.length + ls.length ≤ 100000 → σ.out.length + s.size + dimLen ls + dimLen (insT l) ≤ 140737488355328 →
    Calls Try.prog 60 #[.pointer (some ⟨A, 0, none⟩), .iface T (.pointer (some ⟨b, 0, none⟩))] w fun e w' => e = .returned (.tuple #[]) ∧ PX A w' (arrSt σ s l ls) (insOver l ls) pr ∧ Below A w w' := by
  induction ls with
  | nil =>
    intro T f b w σ l pr hp h _ _ hv ha hi hpr ho
    obtain ⟨⟨rfl, rfl⟩, he⟩ := hp
    exact print_builtinX A b s w σ (insV l) pr h hv he ha.others (by omega) (by omega)
  | cons x ls ih =>
    intro T f b w σ l pr hp h hin hpa hv ha hi hpr ho
    obtain ⟨⟨rfl, rfl⟩, T', f', b', nb, hlt, he, hn, hc⟩ := hp
    simp only [List.length_cons] at hi hpr
    refine print_anyX A _ b _ w σ _ (insV l) [] pr h ntArrayType he.node ha.others (by omega) fun w1 h1 hb1 => ?_
    refine mArr_any A s x ls l T' b b' nb w1 σ _ h1 (he.keep hb1) (hn.keep hb1) (fun p hp => (hin p hp).keep hb1) ((hpa.keep hb1).snoc (he.keep hb1)) (by simp; omega) (by omega) ho fun w2 h2 hb2 => ?_
    have hbb := hb1.trans hb2
    refine ih T' f' b' w2 σ ((b, x) :: l) _ (hc.grow (Nat.le_refl _) hbb) h2 (fun p hp => ?_) ((hpa.keep hbb).snoc (he.keep hbb)) hv ((ha.keep hbb).snoc (he.keep hbb).node hlt) (by simp only [List.length_cons]; omega) (by simp; omega) (by simp only [dimLen, insT] at ho ⊢; omega)
    rcases List.mem_cons.1 hp with hp | hp
    · subst hp; exact ⟨nb, _, he.keep hbb, hn.keep hbb⟩
    · exact (hin p hp).keep hbb

theorem Arr.nodeT {A : Nat} {w : World} {s : ByteArray} {l : List ByteArray} {T f b : Nat} (h : Arr A w s l T f b) : NodeT T f := by
  cases l with
  | nil => obtain ⟨⟨rfl, rfl⟩, _⟩ := h; exact ntBuiltin
  | cons x l => obtain ⟨⟨rfl, rfl⟩, _⟩ := h; exact ntArrayType

theorem root_arr (A : Nat) (s : ByteArray) (ls : List ByteArray) (T f b : Nat) (w : World) (σ : PS) (hp : Arr A w s ls T f b) (h : PX A w σ [] []) (hv : σ.llvm = false) (hl : ls.length ≤ 5000) (ho : σ.out.length + s.size + dimLen ls ≤ 140737488355328) :
    Calls Try.prog f #[.pointer (some ⟨b, 0, none⟩), .pointer (some ⟨A, 0, none⟩)] w fun e w' => e = .returned (.tuple #[]) ∧ PX A w' (arrSt σ s [] ls) [] [] ∧ Below A w w' := by
  cases ls with
  | nil =>
    obtain ⟨⟨rfl, rfl⟩, he⟩ := hp
    obtain ⟨iv, h⟩ := h
    exact (mBuiltin_any A b s w _ [] h hv (he.cell 0) (by show σ.out.length + s.size ≤ _; omega)).mono fun _ _ ⟨h1, h2, h3⟩ => ⟨h1, ⟨iv, h2⟩, h3⟩
  | cons x ls =>
    obtain ⟨⟨rfl, rfl⟩, T', f', b', nb, hlt, he, hn, hc⟩ := hp
    simp only [List.length_cons] at hl
    refine mArr_any A s x ls [] T' b b' nb w σ [] h he hn (fun p hp => by simp at hp) PrA.nil (by simp) (by simp) (by simpa [insT, dimLen] using ho) fun w2 h2 hb2 => ?_
    refine print_arr A s ls T' f' b' w2 σ [(b, x)] [] (hc.grow (Nat.le_refl _) hb2) h2 (fun p hp => ?_) PrA.nil hv Above.nil (by simp; omega) (by simp; omega) (by simp only [dimLen, insT] at ho ⊢; omega)
    simp at hp
    subst hp
    exact ⟨nb, _, he.keep hb2, hn.keep hb2⟩

end Go.Proofs.Ytjemnnfnocmjlaa

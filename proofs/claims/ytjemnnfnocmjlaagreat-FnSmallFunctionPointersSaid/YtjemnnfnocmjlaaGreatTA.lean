/-
  Inner types printed one behind the other: printInner; over the core with kept objects.
-/
import Derived.Test.YtjemnnfnocmjlaaGreatR2K
import Derived.Test.YtjemnnfnocmjlaaGreatLK
namespace Go.Proofs.YtjemnnfnocmjlaaGreat
open Go.RowKit

theorem PX.mk {A : Nat} {w : World} {σ : PS} {iv : Value} {inner pr : List Value} (h : PSt A w { σ with iv := iv, inner := inner } pr) : PX A w σ inner pr := ⟨iv, h⟩

theorem writeStringX (A : Nat) (w : World) (σ : PS) (inner pr : List Value) (s : ByteArray) (h : PX A w σ inner pr) (hl : σ.out.length + s.size ≤ 140737488355328) :
    Calls Tryz.prog 53 #[.pointer (some ⟨A, 0, none⟩), .string s] w fun e w' => e = .returned (.tuple #[]) ∧ PX A w' (σ.text s.data.toList) inner pr ∧ Below A w w' := by
  obtain ⟨iv, h⟩ := h
  exact (writeString_any A w _ pr s h hl).mono fun _ _ ⟨h1, h2, h3⟩ => ⟨h1, ⟨iv, h2⟩, h3⟩

theorem writeByteX (A : Nat) (w : World) (σ : PS) (inner pr : List Value) (b : UInt8) (c : Int) (hc : c = (b.toNat : Int)) (h : PX A w σ inner pr) (hl : σ.out.length + 1 ≤ 140737488355328) :
    Calls Tryz.prog 40 #[.pointer (some ⟨A, 0, none⟩), .int .u8 c] w fun e w' => e = .returned (.tuple #[]) ∧ PX A w' (σ.byte b) inner pr ∧ Below A w w' := by
  obtain ⟨iv, h⟩ := h
  exact (writeByte_any A w _ pr b c hc h hl).mono fun _ _ ⟨h1, h2, h3⟩ => ⟨h1, ⟨iv, h2⟩, h3⟩

theorem startScopeX (A : Nat) (w : World) (σ : PS) (inner pr : List Value) (b : UInt8) (c : Int) (hc : c = (b.toNat : Int)) (h : PX A w σ inner pr) (hl : σ.out.length + 1 ≤ 140737488355328) (h0 : -1000000 ≤ σ.scopes) (h1 : σ.scopes ≤ 1000000) :
    Calls Tryz.prog 49 #[.pointer (some ⟨A, 0, none⟩), .int .u8 c] w fun e w' => e = .returned (.tuple #[]) ∧ PX A w' ((σ.scope (σ.scopes + 1)).byte b) inner pr ∧ Below A w w' := by
  obtain ⟨iv, h⟩ := h
  exact (startScope_any A w _ pr b c hc h hl h0 h1).mono fun _ _ ⟨h1, h2, h3⟩ => ⟨h1, ⟨iv, h2⟩, h3⟩

theorem endScopeX (A : Nat) (w : World) (σ : PS) (inner pr : List Value) (b : UInt8) (c : Int) (hc : c = (b.toNat : Int)) (h : PX A w σ inner pr) (hl : σ.out.length + 1 ≤ 140737488355328) (h0 : -1000000 ≤ σ.scopes) (h1 : σ.scopes ≤ 1000000) :
    Calls Tryz.prog 51 #[.pointer (some ⟨A, 0, none⟩), .int .u8 c] w fun e w' => e = .returned (.tuple #[]) ∧ PX A w' ((σ.scope (σ.scopes - 1)).byte b) inner pr ∧ Below A w w' := by
  obtain ⟨iv, h⟩ := h
  exact (endScope_any A w _ pr b c hc h hl h0 h1).mono fun _ _ ⟨h1, h2, h3⟩ => ⟨h1, ⟨iv, h2⟩, h3⟩

theorem print_nameX (A b : Nat) (s : ByteArray) (w : World) (σ : PS) (inner pr : List Value) (h : PX A w σ inner pr) (he : El A w b #[.string s] 65) (ho : Others A w b pr) (hl : pr.length ≤ 100000) (hs : σ.out.length + s.size ≤ 140737488355328) :
    Calls Tryz.prog 39 #[.pointer (some ⟨A, 0, none⟩), .iface 63 (.pointer (some ⟨b, 0, none⟩))] w fun e w' => e = .returned (.tuple #[]) ∧ PX A w' (σ.text s.data.toList) inner pr ∧ Below A w w' := by
  obtain ⟨iv, h⟩ := h
  exact (print_name A b s w _ pr h he ho hl hs).mono fun _ _ ⟨h1, h2, h3⟩ => ⟨h1, ⟨iv, h2⟩, h3⟩

theorem print_builtinX (A b : Nat) (s : ByteArray) (w : World) (σ : PS) (inner pr : List Value) (h : PX A w σ inner pr) (hv : σ.llvm = false) (he : El A w b #[.string s] 68) (ho : Others A w b pr) (hl : pr.length ≤ 100000) (hs : σ.out.length + s.size ≤ 140737488355328) :
    Calls Tryz.prog 39 #[.pointer (some ⟨A, 0, none⟩), .iface 67 (.pointer (some ⟨b, 0, none⟩))] w fun e w' => e = .returned (.tuple #[]) ∧ PX A w' (σ.text s.data.toList) inner pr ∧ Below A w w' := by
  obtain ⟨iv, h⟩ := h
  exact (print_builtin A b s w _ pr h hv he ho hl hs).mono fun _ _ ⟨h1, h2, h3⟩ => ⟨h1, ⟨iv, h2⟩, h3⟩

theorem PX.start {A : Nat} {w : World} (h : PSt A w PS.start []) : PX A w PS.start [] [] := ⟨.slice none 0 0, h⟩

/-- What a method does to the state with inner types, as the whole text of a printing. -/
theorem whole_of {A : Nat} {w1 : World} {f b : Nat} {σ' : PS} {text : List UInt8} (ho : σ'.out = text)
    (h : Calls Tryz.prog f #[.pointer (some ⟨b, 0, none⟩), .pointer (some ⟨A, 0, none⟩)] w1 fun e w2 => e = .returned (.tuple #[]) ∧ PX A w2 σ' [] [] ∧ Below A w1 w2) :
    Calls Tryz.prog f #[.pointer (some ⟨b, 0, none⟩), .pointer (some ⟨A, 0, none⟩)] w1 fun e w2 => e = .returned (.tuple #[]) ∧ (∃ σ', PSt A w2 σ' [] ∧ σ'.out = text) ∧ Below A w1 w2 :=
  h.mono fun _ _ ⟨h1, ⟨_, h2⟩, h3⟩ => ⟨h1, ⟨_, h2, ho⟩, h3⟩

/-- What is being printed lies in blocks above b. -/
def Above (A : Nat) (w : World) (b : Nat) (pr : List Value) : Prop :=
  ∀ u ∈ pr, ∃ T' b', u = .iface T' (.pointer (some ⟨b', 0, none⟩)) ∧ NodeAt A w b' ∧ b < b'

theorem Above.others {A b : Nat} {w : World} {pr : List Value} (h : Above A w b pr) : Others A w b pr := fun u hu => by
  obtain ⟨T', b', e, hn, hb⟩ := h u hu
  exact ⟨T', b', e, hn, by omega⟩

theorem Above.keep {A b : Nat} {w w' : World} {pr : List Value} (h : Above A w b pr) (hb : Below A w w') : Above A w' b pr := fun u hu => by
  obtain ⟨T', b', e, hn, hlt⟩ := h u hu
  exact ⟨T', b', e, hn.keep hb, hlt⟩

theorem Above.snoc {A b b' T : Nat} {w : World} {pr : List Value} (h : Above A w b pr) (hn : NodeAt A w b) (hlt : b' < b) : Above A w b' (pr ++ [.iface T (.pointer (some ⟨b, 0, none⟩))]) := fun u hu => by
  rcases List.mem_append.1 hu with hu | hu
  · obtain ⟨T', b1, e, hn1, hlt1⟩ := h u hu
    exact ⟨T', b1, e, hn1, by omega⟩
  · simp at hu
    exact ⟨T, b, hu, hn, hlt⟩

theorem Above.nil {A b : Nat} {w : World} : Above A w b [] := fun u hu => by simp at hu

/-- printState.print with inner types. -/
theorem print_anyX (A T b f : Nat) (w : World) (σ σ1 : PS) (inner inner1 pr : List Value) (h : PX A w σ inner pr) (ht : NodeT T f) (hn : NodeAt A w b) (ho : Others A w b pr) (hl : pr.length ≤ 100000)
    (ih : ∀ w1, PX A w1 σ inner (pr ++ [.iface T (.pointer (some ⟨b, 0, none⟩))]) → Below A w w1 →
      Calls Tryz.prog f #[.pointer (some ⟨b, 0, none⟩), .pointer (some ⟨A, 0, none⟩)] w1 fun e w2 => e = .returned (.tuple #[]) ∧ PX A w2 σ1 inner1 (pr ++ [.iface T (.pointer (some ⟨b, 0, none⟩))]) ∧ Below A w1 w2) :
    Calls Tryz.prog 39 #[.pointer (some ⟨A, 0, none⟩), .iface T (.pointer (some ⟨b, 0, none⟩))] w fun e w' => e = .returned (.tuple #[]) ∧ PX A w' σ1 inner1 pr ∧ Below A w w' := by
  obtain ⟨iv, h⟩ := h
  refine (print_anyR A T b f w _ (fun x => ∃ iv', x = { σ1 with iv := iv', inner := inner1 }) pr h ht hn ho hl fun w1 h1 hb1 => (ih w1 ⟨iv, h1⟩ hb1).mono fun _ _ ⟨h2, ⟨iv', h3⟩, h4⟩ => ⟨h2, ⟨_, ⟨iv', rfl⟩, h3⟩, h4⟩).mono ?_
  rintro e w' ⟨h2, ⟨_, ⟨iv', rfl⟩, h5⟩, h4⟩
  exact ⟨h2, ⟨iv', h5⟩, h4⟩

set_option maxRecDepth 100000 in
set_option maxHeartbeats 2000000 in
theorem printOneS_any (A T b f k0 : Nat) (w : World) (σ σ1 : PS) (inner inner1 pr : List Value) (h : PX A w σ (inner ++ [.iface T (.pointer (some ⟨b, 0, none⟩))]) pr) (hi : InnerT T f) (hl : inner.length ≤ 100000) (hq : ∀ (p : Value) (w : World), (Instr.typeAssert (.iface T p) 36 115 true).run Tryz.prog w = .ok (.tuple #[.pointer none, .bool false]) w)
    (hin : ∀ w1, PX A w1 σ inner pr → Below A w w1 →
      Calls Tryz.prog f #[.pointer (some ⟨b, 0, none⟩), .pointer (some ⟨A, 0, none⟩)] w1 fun e w2 => e = .returned (.tuple #[]) ∧ PX A w2 σ1 inner1 pr ∧ Below A w1 w2) :
    Calls Tryz.prog 54 #[.pointer (some ⟨A, 0, none⟩), .pointer (some ⟨k0, 0, none⟩)] w fun e w' => e = .returned (.tuple #[]) ∧ PX A w' σ1 inner1 pr ∧ Below A w w' := by
  obtain ⟨a, cap, hc, hown, hp, hpos⟩ := h.row
  obtain ⟨g, rfl, hcap⟩ := hpos (by simp)
  have hlen : (inner ++ [Value.iface T (.pointer (some ⟨b, 0, none⟩))]).length = inner.length + 1 := by simp
  rw [hlen] at hc hcap hown hp
  have hel : w.cell? ⟨g, inner.length, none⟩ = some (.iface T (.pointer (some ⟨b, 0, none⟩))) := by
    rw [hown.cellAt inner.length (by omega)]
    simp
  have f8 := hp.free 8
  obtain ⟨_, _, _, hset, hbset⟩ := PX.set (inner' := inner) hp (own_pop hown) (World.grownBy.refl _ _) (.inl rfl)
  have HSET := Lib.hid hset
  have HBS := Lib.hid hbset
  have HI := Lib.hid hin
  have e1 := hi.ta
  have e2 := hi.m
  have e3 := hi.c
  clear h hp hown hpos hlen hset hbset hin hi
  go_enter Tryz.func54, Tryz.ntmps54
  go_wp2_with fail
  refine (HI.out _ HSET.out HBS.out).mono ?_
  rintro e w2 ⟨rfl, hp2, hb2⟩
  go_wp2_with fail
  go_end0
  exact ⟨rfl, hp2, HBS.out.trans hb2⟩

theorem PX.setNil {A : Nat} {w : World} {σ : PS} {inner pr : List Value} (h : PX A w σ inner pr) : PX A (w.setCell ⟨A, 8, none⟩ (.slice none 0 0)) σ [] pr ∧ Below A w (w.setCell ⟨A, 8, none⟩ (.slice none 0 0)) := by
  obtain ⟨iv, ad, bv, pv, hA, h1, h2, h3, h4, h5, h6, h7⟩ := h
  exact ⟨⟨.slice none 0 0, ad, bv, pv, by simpa using heap_setCell_same w A 8 _ _ (.slice none 0 0) hA, h1, own_store h2 _ _, h3, World.ownsRow_nil _ _ _ _, own_store h5 _ _, fun g hg => by simp [Value.ownBlock] at hg, h7.store hA _ _⟩, (Below.refl A w).setCell (p := ⟨A, 8, none⟩) (Nat.le_refl A) _⟩

theorem PX.alloc {A : Nat} {w : World} {σ : PS} {inner pr : List Value} (h : PX A w σ inner pr) (o : Obj) : PX A (w.alloc o) σ inner pr := by
  obtain ⟨iv, h⟩ := h
  exact ⟨iv, h.alloc o⟩

theorem PX.keepOne {A : Nat} {w : World} {σ : PS} {inner pr : List Value} (h : PX A w σ inner pr) (k : Nat) (cs : Array Value) (T : Nat) (hk : w.heap[k]? = some (.cells cs T (0, 0))) (h1 : T ≠ 5) (h2 : T ≠ 36) (h3 : T ≠ 59) :
    PX A w { σ with kept := (k, cs, T) :: σ.kept } inner pr := by
  obtain ⟨iv, h⟩ := h
  exact ⟨iv, h.keepOne k cs T hk h1 h2 h3⟩

theorem PX.keptAt {A : Nat} {w : World} {σ : PS} {inner pr : List Value} (h : PX A w σ inner pr) {k : Nat} {cs : Array Value} {T : Nat} (hk : (k, cs, T) ∈ σ.kept) : w.heap[k]? = some (.cells cs T (0, 0)) := by
  obtain ⟨iv, h⟩ := h
  exact h.keptAt hk

theorem PX.keepLess {A : Nat} {w : World} {σ : PS} {inner pr : List Value} (h : PX A w σ inner pr) (ks : List (Nat × Array Value × Nat)) (hk : ∀ p ∈ ks, p ∈ σ.kept) : PX A w { σ with kept := ks } inner pr := by
  obtain ⟨iv, h⟩ := h
  exact ⟨iv, h.keepLess ks hk⟩

theorem PX.lt {A : Nat} {w : World} {σ : PS} {inner pr : List Value} (h : PX A w σ inner pr) : A < w.heap.size := h.parts.2.1
theorem below_drew {A : Nat} {w w' : World} (h : Below A w w') : Below A w w'.drew := ⟨h.os, h.tape, h.output, h.size, h.block⟩

/-- Inner types, the last one last. -/
def insL (Tf bf : Nat → Nat) : Nat → List Value
  | 0 => []
  | j + 1 => insL Tf bf j ++ [.iface (Tf j) (.pointer (some ⟨bf j, 0, none⟩))]

theorem insL_len (Tf bf : Nat → Nat) (m : Nat) : (insL Tf bf m).length = m := by
  induction m with
  | zero => rfl
  | succ m ih => simp [insL, ih]

/-- How many inner types the struct holds. -/
def lenAt (w : World) (A : Nat) : Nat := match w.cell? ⟨A, 8, none⟩ with
  | some (.slice _ n _) => n
  | _ => 0

theorem PX.lenAt {A : Nat} {w : World} {σ : PS} {inner pr : List Value} (h : PX A w σ inner pr) : lenAt w A = inner.length := by
  obtain ⟨a, cap, hc, _⟩ := h.row
  simp [Go.Proofs.YtjemnnfnocmjlaaGreat.lenAt, hc]

set_option maxRecDepth 100000 in
set_option maxHeartbeats 2000000 in
/-- printInner(true): all inner types, the last one first; nothing is put by. -/
theorem printInnerT_any (A m : Nat) (Tf ff bf : Nat → Nat) (st : Nat → PS) (pr : List Value) (w : World) (h : PX A w (st 0) (insL Tf bf m) pr) (hm : m ≤ 100000) (hT : ∀ j, j < m → InnerT (Tf j) (ff j))
    (hq : ∀ j, j < m → ∀ (p : Value) (w : World), (Instr.typeAssert (.iface (Tf j) p) 36 115 true).run Tryz.prog w = .ok (.tuple #[.pointer none, .bool false]) w)
    (hin : ∀ K j i, j + i + 1 = m → ∀ w1, PX A w1 { st j with kept := K } (insL Tf bf i) pr → Below A w w1 →
      Calls Tryz.prog (ff i) #[.pointer (some ⟨bf i, 0, none⟩), .pointer (some ⟨A, 0, none⟩)] w1 fun e w2 => e = .returned (.tuple #[]) ∧ PX A w2 { st (j + 1) with kept := K } (insL Tf bf i) pr ∧ Below A w1 w2) :
    Calls Tryz.prog 50 #[.pointer (some ⟨A, 0, none⟩), .bool true] w fun e w' => e = .returned (.slice none 0 0) ∧ PX A w' { st m with kept := (st 0).kept } [] pr ∧ Below A w w' := by
  have h1 := (h.alloc (.cells #[.slice none 0 0] 42)).keepOne w.heap.size #[.slice none 0 0] 42 (heap_alloc_new _ _) (by decide) (by decide) (by decide)
  have hb1 : Below A w (w.alloc (.cells #[.slice none 0 0] 42)) := (Below.refl A w).alloc (Nat.le_of_lt h.lt) _
  generalize hK : (w.heap.size, #[Value.slice none 0 0], 42) :: (st 0).kept = K at h1
  have hk1 : (w.heap.size, #[Value.slice none 0 0], 42) ∈ K := by rw [← hK]; exact List.mem_cons_self ..
  have hk3 : ∀ p ∈ (st 0).kept, p ∈ K := fun p hp => by rw [← hK]; exact List.mem_cons_of_mem _ hp
  have H1 := Lib.hid h1
  have HB1 := Lib.hid hb1
  have HT := Lib.hid hT
  have HQ := Lib.hid hq
  have HI := Lib.hid hin
  have HK := Lib.hid (And.intro hk1 hk3)
  clear h h1 hb1 hK hk1 hk3 hT hq hin
  go_enter Tryz.func50, Tryz.ntmps50
  go_wp2_with fail
  go_loopw [8] (fun _ wr => ∃ j i : Nat, j + i = m ∧ PX A wr { st j with kept := K } (insL Tf bf i) pr ∧ Below A w wr) (fun _ wr => lenAt wr A)
  case atStart => exact ⟨0, m, by omega, H1.out, HB1.out⟩
  case round =>
    obtain ⟨j, i, hji, hst, hb⟩ := hrel
    clear H1 HB1
    cases i with
    | zero =>
      obtain rfl : j = m := by omega
      obtain ⟨a, cap, hc, _⟩ := hst.row
      have hk := Lib.cell_of_heap (hst.keptAt (show (w.heap.size, #[Value.slice none 0 0], 42) ∈ ({ st j with kept := K } : PS).kept from HK.out.1)) 0
      have hc : wr.cell? ⟨A, 8, none⟩ = some (.slice a 0 cap) := hc
      have hfin := hst.keepLess (st 0).kept HK.out.2
      have HS := Lib.hid hfin
      clear hst hfin
      go_wp2_with fail
      go_ret
      exact ⟨rfl, HS.out, hb⟩
    | succ i =>
      obtain ⟨a, cap, hc, _⟩ := hst.row
      rw [insL_len] at hc
      have HS := Lib.hid hst
      have HB := Lib.hid hb
      clear hst hb
      go_wp2_with fail
      refine (printOneS_any A (Tf i) (bf i) (ff i) w.heap.size wr { st j with kept := K } { st (j + 1) with kept := K } (insL Tf bf i) (insL Tf bf i) pr HS.out (HT.out i (by omega)) (by rw [insL_len]; omega) (HQ.out i (by omega)) (fun w1 h1 hb1 => HI.out K j i (by omega) w1 h1 (HB.out.trans hb1))).mono ?_
      rintro e w2 ⟨rfl, hp2, hb2⟩
      have hb2' := HB.out.trans hb2
      have hl1 : lenAt wr A = i + 1 := by rw [HS.out.lenAt, insL_len]
      have hl2 : lenAt w2 A = i := by rw [hp2.lenAt, insL_len]
      clear HS HB hb2
      have HS2 := Lib.hid hp2
      clear hp2
      go_wp2_with fail
      go_roundw
      case rel => exact ⟨j + 1, i, by omega, HS2.out, hb2'⟩
      case measure => omega

set_option maxHeartbeats 1000000 in
/-- printInner(false) where there is nothing left. -/
theorem printInnerF_any (A : Nat) (σ : PS) (pr : List Value) (w : World) (h : PX A w σ [] pr) :
    Calls Tryz.prog 50 #[.pointer (some ⟨A, 0, none⟩), .bool false] w fun e w' => e = .returned (.slice none 0 0) ∧ PX A w' σ [] pr ∧ Below A w w' := by
  have h1 := h.alloc (.cells #[.slice none 0 0] 42)
  have hb1 : Below A w (w.alloc (.cells #[.slice none 0 0] 42)) := (Below.refl A w).alloc (Nat.le_of_lt h.lt) _
  obtain ⟨a, cap, hc, _⟩ := h1.row
  have hc : (w.alloc (.cells #[.slice none 0 0] 42)).cell? ⟨A, 8, none⟩ = some (.slice a 0 cap) := hc
  have hk : (w.alloc (.cells #[.slice none 0 0] 42)).cell? ⟨w.heap.size, 0, none⟩ = some (.slice none 0 0) := Lib.cell_of_heap (heap_alloc_new _ _) 0
  have H1 := Lib.hid h1
  have HB1 := Lib.hid hb1
  clear h h1 hb1
  go_enter Tryz.func50, Tryz.ntmps50
  go_wp2_with fail
  generalize w.alloc (.cells #[.slice none 0 0] 42) = w1 at *
  refine wp_loop_rounds 1 ?_
  rw [rounds_succ]
  go_wp2_with fail
  go_ret
  exact ⟨rfl, H1.out, HB1.out⟩

end Go.Proofs.YtjemnnfnocmjlaaGreat

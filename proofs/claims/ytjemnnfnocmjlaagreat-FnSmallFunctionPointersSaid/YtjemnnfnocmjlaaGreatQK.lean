/-
  Printing an element: printState.print, given what the element's own method does.
-/
import Derived.Test.YtjemnnfnocmjlaaGreatPK
import Derived.LaidEql
namespace Go.Proofs.YtjemnnfnocmjlaaGreat
open Go.RowKit

/-- What the program's table says of a type of elements: a pointer to a struct of some size, which can be compared; its method print is the function f. -/
structure NodeT (T : TypeId) (f : FuncId) : Prop where
  ptr : ∃ te i j, Tryz.prog.underlying T = some (.pointer te) ∧ Tryz.prog.info? T = some i ∧ i.comparable = true ∧ Tryz.prog.info? te = some j ∧ j.size ≠ 0
  m : ∀ (a : Addr) (w : World), (method 264 T (.pointer (some a)) "loop.example/pub-g01448/pub/demangle.print").run Tryz.prog w = .ok (f, .pointer (some a)) w
  c : ∀ (args : Array Value) (w : World), (callFunc f args).run Tryz.prog w = .ok (.enter f args) w

theorem nodeT_of {T te : TypeId} {n : Nat} (h1 : Tryz.prog.underlying T = some (.pointer te)) (h2 : (Tryz.prog.info? T).map (fun i => i.comparable) = some true) (h3 : (Tryz.prog.info? te).map (fun i => i.size) = some n) (hn : n ≠ 0) :
    ∃ te i j, Tryz.prog.underlying T = some (.pointer te) ∧ Tryz.prog.info? T = some i ∧ i.comparable = true ∧ Tryz.prog.info? te = some j ∧ j.size ≠ 0 := by
  obtain ⟨i, hi, hc⟩ := Option.map_eq_some_iff.1 h2
  obtain ⟨j, hj, hs⟩ := Option.map_eq_some_iff.1 h3
  exact ⟨te, i, j, h1, hi, hc, hj, by rw [hs]; exact hn⟩

/-- Block b is a struct below block A: an element. -/
structure NodeAt (A : Nat) (w : World) (b : Nat) : Prop where
  lt : b < A
  cells : ∃ c TT, w.heap[b]? = some (.cells c TT (0, 0))

/-- A list of elements that lie below block A, none of them in block b. -/
def Others (A : Nat) (w : World) (b : Nat) (pr : List Value) : Prop :=
  ∀ u ∈ pr, ∃ T' b', u = .iface T' (.pointer (some ⟨b', 0, none⟩)) ∧ NodeAt A w b' ∧ b' ≠ b

theorem Others.keep {A : Nat} {w w' : World} {b : Nat} {pr : List Value} (h : Others A w b pr) (hb : Below A w w') : Others A w' b pr := by
  intro u hu
  obtain ⟨T', b', e, hn, hne⟩ := h u hu
  obtain ⟨c, TT, hc⟩ := hn.cells
  exact ⟨T', b', e, ⟨hn.lt, c, TT, by rw [hb.block b' hn.lt]; exact hc⟩, hne⟩

theorem NodeAt.keep {A : Nat} {w w' : World} {b : Nat} (h : NodeAt A w b) (hb : Below A w w') : NodeAt A w' b := by
  obtain ⟨c, TT, hc⟩ := h.cells
  exact ⟨h.lt, c, TT, by rw [hb.block b h.lt]; exact hc⟩

theorem eq_other {w : World} {T T' b b' f A : Nat} (ht : NodeT T f) (h : NodeAt A w b) (h' : NodeAt A w b') (hne : b' ≠ b) :
    (binOp .eql 36 (.iface T' (.pointer (some ⟨b', 0, none⟩))) (.iface T (.pointer (some ⟨b, 0, none⟩)))).run Tryz.prog w = .ok (.bool false) w := by
  by_cases hT : T' = T
  · subst hT
    obtain ⟨te, i, j, h1, h2, h3, h4, h5⟩ := ht.ptr
    obtain ⟨c, TT, hc⟩ := h.cells
    obtain ⟨c', TT', hc'⟩ := h'.cells
    exact run_eql_iface_ptr_other w Tryz.underlying36 h1 h2 h3 h4 h5 (fun e => hne (congrArg Addr.block e)) hc' hc
  · have e : ∀ d : Nat, (Op.equalIn (d + 1) 36 (.iface T' (.pointer (some ⟨b', 0, none⟩))) (.iface T (.pointer (some ⟨b, 0, none⟩)))).run Tryz.prog w = .ok false w := fun d => by
      simp [Op.equalIn, run_underlying Tryz.underlying36, hT]
    simp only [binOp]
    simp [Op.equal, Op.maxDepth, e 9999]

/-- What is being printed, one more, one fewer: the struct's last field. -/
theorem PSt.prints {A : Nat} {w : World} {σ : PS} {pr : List Value} (h : PSt A w σ pr) : ∃ pv, w.cell? ⟨A, 9, none⟩ = some pv ∧ w.ownsRow (A + 1) 36 1 pv pr.length pr := by
  obtain ⟨ad, bv, pv, hA, h1, h2, h3, h4, h5, h6, h7⟩ := h
  exact ⟨pv, by simp [World.cell?, hA], h5⟩

/-- A new slice of what is being printed is laid into the struct. -/
theorem PSt.setPrints {A : Nat} {w w1 : World} {σ : PS} {pr pr' : List Value} {v1 pv : Value} (h : PSt A w σ pr) (hpv : w.cell? ⟨A, 9, none⟩ = some pv)
    (hown : w1.ownsRow (A + 1) 36 1 v1 pr'.length pr') (hg : w.grownBy w1 pv.ownBlock) (hn : v1.ownBlock = pv.ownBlock ∨ ∃ g, v1.ownBlock = some g ∧ w.heap.size ≤ g) :
    (∃ a n c, v1 = .slice a n c) ∧ w1.cell? ⟨A, 9, none⟩ = some pv ∧ w1.frozen? ⟨A, 9, none⟩ = false ∧ PSt A (w1.setCell ⟨A, 9, none⟩ v1) σ pr' ∧ Below A w (w1.setCell ⟨A, 9, none⟩ v1) := by
  obtain ⟨ad, bv, pv', hA, h1, h2, h3, h4, h5, h6, h7⟩ := h
  have e : pv' = pv := by simpa [World.cell?, hA] using hpv
  subst e
  have hne : some A ≠ pv'.ownBlock := fun e => by have := (h5.lt A e.symm).1; omega
  have hA1 : w1.heap[A]? = some (.cells #[.bool σ.tp, .bool σ.ep, .bool σ.llvm, .int .i64 0, .int .i64 σ.scopes, ad, bv, .int .u8 σ.last, σ.iv, pv'] 59 (0, 0)) := by
    rw [hg.block A (lt_of_block hA) hne, hA]
  have hiv : σ.iv.ownBlock = none ∨ σ.iv.ownBlock ≠ pv'.ownBlock := by
    cases hv : σ.iv.ownBlock with
    | none => exact .inl rfl
    | some g => exact .inr (fun e => h6 g hv e.symm)
  refine ⟨?_, by simp [World.cell?, hA1], Lib.frozen_of_heap hA1 9, ⟨ad, bv, v1, by simpa using heap_setCell_same w1 A 9 _ _ v1 hA1, h1, ?_, h3, ?_, own_store hown _ _, ?_, (h7.grown h5 (.inr rfl) hg).store hA1 _ _⟩, ?_⟩
  · rcases hown.2 with ⟨e, _⟩ | ⟨g, cap, cur, e, _⟩
    · exact ⟨_, _, _, e⟩
    · exact ⟨_, _, _, e⟩
  · exact own_store (h2.kept hg (rows_apart h2 h5 (by decide))) _ _
  · exact own_store (h4.kept hg hiv) _ _
  · intro g hi hv
    rcases hn with hn | ⟨g', hn, hge⟩
    · rw [hn] at hv
      exact h6 g hi hv
    · rw [hn] at hv
      have := (h4.lt g hi).2
      simp at hv
      omega
  · exact ((Below.refl A w).grown hg (Nat.le_of_lt (lt_of_block hA)) (fun k hk => by have := (h5.lt k hk).1; omega)).setCell (p := ⟨A, 9, none⟩) (Nat.le_refl A) _

/-- A slice cut off at its end by one element. -/
theorem own_pop {w : World} {B e n : Nat} {a : Option Addr} {cap : Nat} {xs : List Value} {x : Value} (h : w.ownsRow B e 1 (.slice a (n + 1) cap) (n + 1) (xs ++ [x])) : w.ownsRow B e 1 (.slice a n cap) n xs := by
  have hl : xs.length = n := by have := h.1; simp at this; omega
  refine ⟨by omega, ?_⟩
  rcases h.2 with ⟨e, h0⟩ | ⟨g, c, cur, e, hb, hg, hn, hm, hs, ht⟩
  · omega
  · simp at e
    obtain ⟨rfl, rfl⟩ := e
    refine .inr ⟨g, cap, cur, rfl, hb, hg, by omega, hm, hs, ?_⟩
    have : (cur.toList.take ((n + 1) * 1)).take n = xs := by rw [ht, List.take_append_of_le_length (by omega), List.take_of_length_le (by omega)]
    rw [List.take_take] at this
    simpa [Nat.min_eq_left (Nat.le_succ n)] using this

set_option maxRecDepth 100000 in
set_option maxHeartbeats 2000000 in
theorem print_anyR (A T b f : Nat) (w : World) (σ : PS) (R : PS → Prop) (pr : List Value) (h : PSt A w σ pr) (ht : NodeT T f) (hn : NodeAt A w b) (ho : Others A w b pr) (hl : pr.length ≤ 100000)
    (ih : ∀ w1, PSt A w1 σ (pr ++ [.iface T (.pointer (some ⟨b, 0, none⟩))]) → Below A w w1 →
      Calls Tryz.prog f #[.pointer (some ⟨b, 0, none⟩), .pointer (some ⟨A, 0, none⟩)] w1 fun e w2 => e = .returned (.tuple #[]) ∧ (∃ σ', R σ' ∧ PSt A w2 σ' (pr ++ [.iface T (.pointer (some ⟨b, 0, none⟩))])) ∧ Below A w1 w2) :
    Calls Tryz.prog 39 #[.pointer (some ⟨A, 0, none⟩), .iface T (.pointer (some ⟨b, 0, none⟩))] w fun e w' => e = .returned (.tuple #[]) ∧ (∃ σ', R σ' ∧ PSt A w' σ' pr) ∧ Below A w w' := by
  have c3 := h.cMax
  have hd : decide ((0 : Int) < 0) = false := rfl
  have H := Lib.hid h
  have IH := Lib.hid ih
  have HO := Lib.hid ho
  clear h ih ho
  go_enter Tryz.func39, Tryz.ntmps39
  go_wp2_with fail
  go_quiet (fail)
  have hb0 : Below A w (w.drewN nq) := below_drewN (Below.refl A w) nq
  have h := H.out.drewN nq
  have ho := HO.out.keep hb0
  have hn0 := hn.keep hb0
  clear H HO c3 hn
  generalize w.drewN nq = w0 at *
  obtain ⟨pv, hpv, hown⟩ := h.prints
  obtain ⟨a, cap, rfl⟩ : ∃ a cap, pv = .slice a pr.length cap := by
    rcases hown.2 with ⟨e, e'⟩ | ⟨g, cap, cur, e, _⟩
    · exact ⟨none, 0, by rw [e, e']⟩
    · exact ⟨_, _, e⟩
  have HT := Lib.hid ht
  have HO := Lib.hid ho
  have H := Lib.hid h
  have f9 := h.free 9
  have HPV := Lib.hid hpv
  obtain ⟨i0, hi, hz0, hz1, hz2⟩ := info_parts Tryz.infoAst
  have hA0 := h.lt
  clear ht ho h
  go_wp2_with fail
  go_loop [4, 28] (fun c i => ∃ k : Nat, k ≤ pr.length ∧ i = .int .i64 k ∧ c = .int .i64 0) (fun _ i => pr.length - (intOf i).toNat)
  case atStart => exact ⟨0, Nat.zero_le _, rfl, rfl⟩
  case round =>
    obtain ⟨k, hk, rfl, rfl⟩ := hrel
    by_cases hlt : k < pr.length
    · obtain ⟨g, rfl⟩ : ∃ g, a = some ⟨g, 0, none⟩ := by
        rcases hown.2 with ⟨_, e⟩ | ⟨g, _, _, e, _⟩
        · omega
        · simp at e; exact ⟨g, e.1⟩
      obtain ⟨T', b', e, hn', hne⟩ := HO.out pr[k] (List.getElem_mem hlt)
      have hel : w0.cell? ⟨g, k, none⟩ = some (.iface T' (.pointer (some ⟨b', 0, none⟩))) := by
        rw [hown.cellAt k (by omega), ← e]
        simp
      have heq := eq_other (T' := T') HT.out hn0 hn' hne
      clear e
      go_wp2_with fail
      go_round
      case rel => exact ⟨k + 1, by omega, by go_num, rfl⟩
      case measure => simp [intOf]; omega
    · go_wp2_with (at_builtin; refine wpList_append_srcB _ rfl _ _ 42 42 rfl (A + 1) 36 i0 .nilIface 1 16 Tryz.underlying42 hi hz0 hz1 hz2 rfl _ _ _ _ rfl rfl (hown.alloc _) 1 [.iface T (.pointer (some ⟨b, 0, none⟩))] (Src.ofSlice _ Tryz.underlying42 ⟨w0.heap.size, 0, none⟩ 1 1 _ rfl (cell_one_new _ _ _) (by simp [Value.oneCell'])) ?c3 (by omega) (by simp; omega) ?_)
      case c3 => unfold maxLen; omega
      intro v1 w1 hown1 hg1 hn1
      have hg' : w0.grownBy w1 (Value.slice a pr.length cap).ownBlock := ⟨hg1.os, hg1.tape, hg1.output, by have := hg1.size; simp at this; omega, fun k hk hne => by rw [hg1.block k (by simp; omega) hne, Below.heap_alloc _ _ _ hk]⟩
      obtain ⟨⟨a1, n1, cap1, rfl⟩, k1, k2, k3, k4⟩ := PSt.setPrints (pr' := pr ++ [.iface T (.pointer (some ⟨b, 0, none⟩))]) H.out HPV.out (by simpa using hown1) hg' (by
        rcases hn1 with h | ⟨g, h, hge⟩
        · exact .inl h
        · exact .inr ⟨g, h, by omega⟩)
      have e1 := HT.out.m
      have e2 := HT.out.c
      have K3 := Lib.hid k3
      have hb1 := hb0.trans k4
      clear hown hown1 hg1 hn1 hg' hpv k3 f9
      go_wp2_with fail
      refine (IH.out _ K3.out hb1).mono ?_
      rintro e w2 ⟨rfl, ⟨σ', hR, hp2⟩, hb2⟩
      have HR := Lib.hid hR
      clear hR
      obtain ⟨pv2, hpv2, hown2⟩ := hp2.prints
      obtain ⟨g2, cap2, rfl, hcap⟩ : ∃ g2 cap2, pv2 = .slice (some ⟨g2, 0, none⟩) (pr.length + 1) cap2 ∧ pr.length + 1 ≤ cap2 := by
        rcases hown2.2 with ⟨e, e'⟩ | ⟨g, cap, cur, e, _, _, hc, _⟩
        · simp at e'
        · exact ⟨_, _, by simpa using e, by simpa using hc⟩
      have hpop := own_pop (by simpa using hown2)
      have hset := PSt.setPrints (pr' := pr) hp2 hpv2 hpop (World.grownBy.refl _ _) (.inl rfl)
      obtain ⟨_, _, _, hset, hbset⟩ := hset
      have HSET := Lib.hid hset
      have HBS := Lib.hid hbset
      have f9 := hp2.free 9
      have hb3 := hb1.trans hb2
      have HP2 := Lib.hid hp2
      have HPV2 := Lib.hid hpv2
      clear hb0 hb1 hb2 hp2 e1 e2 k1 k2 k4 hown2 hpop hset hbset
      go_wp2_with fail
      go_region
      go_end0
      have hfin := hb3.trans HBS.out
      exact ⟨rfl, ⟨σ', HR.out, HSET.out⟩, ⟨hfin.os, hfin.tape, hfin.output, hfin.size, hfin.block⟩⟩

theorem print_any (A T b f : Nat) (w : World) (σ σ' : PS) (pr : List Value) (h : PSt A w σ pr) (ht : NodeT T f) (hn : NodeAt A w b) (ho : Others A w b pr) (hl : pr.length ≤ 100000)
    (ih : ∀ w1, PSt A w1 σ (pr ++ [.iface T (.pointer (some ⟨b, 0, none⟩))]) → Below A w w1 →
      Calls Tryz.prog f #[.pointer (some ⟨b, 0, none⟩), .pointer (some ⟨A, 0, none⟩)] w1 fun e w2 => e = .returned (.tuple #[]) ∧ PSt A w2 σ' (pr ++ [.iface T (.pointer (some ⟨b, 0, none⟩))]) ∧ Below A w1 w2) :
    Calls Tryz.prog 39 #[.pointer (some ⟨A, 0, none⟩), .iface T (.pointer (some ⟨b, 0, none⟩))] w fun e w' => e = .returned (.tuple #[]) ∧ PSt A w' σ' pr ∧ Below A w w' :=
  (print_anyR A T b f w σ (fun x => x = σ') pr h ht hn ho hl fun w1 h1 hb1 => (ih w1 h1 hb1).mono fun _ _ ⟨h2, h3, h4⟩ => ⟨h2, ⟨σ', rfl, h3⟩, h4⟩).mono fun _ _ ⟨h2, ⟨_, h3, h5⟩, h4⟩ => ⟨h2, h3 ▸ h5, h4⟩

end Go.Proofs.YtjemnnfnocmjlaaGreat

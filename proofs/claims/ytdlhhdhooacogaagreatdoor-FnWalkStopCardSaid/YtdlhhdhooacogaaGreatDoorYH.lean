/-
  Elements out of the elements below them.
-/
import Derived.Test.YtdlhhdhooacogaaGreatDoorYE
import Derived.Test.YtdlhhdhooacogaaGreatDoorYF
import Derived.Test.YtdlhhdhooacogaaGreatDoorYG
namespace Go.Proofs.YtdlhhdhooacogaaGreatDoor
open Go.RowKit

theorem size_alloc (w : World) (O : Obj) : (w.alloc O).heap.size = w.heap.size + 1 := by simp

/-- Traverse at the element hands on the kinds ks. -/
def Elem (ks : ByteArray → List ByteArray) : ElemP := fun S w v => ∀ o s stop w0, ¬ S o → w.heap.size ≤ w0.heap.size → (∀ k, S k → w0.heap[k]? = w.heap[k]?) → Goes o s stop w0 (ks stop) v
def NilE : ElemP := fun _ _ v => v = .nilIface
def IfaceE : ElemP := fun _ _ v => ∃ T p, v = .iface T p

theorem Elem.kept (ks : ByteArray → List ByteArray) : Kept (Elem ks) := fun S w w' v h _ hs hk o s stop w0 h1 h2 h3 => h o s stop w0 h1 (by omega) (fun k hS => (h3 k hS).trans (hk k hS))
theorem NilE.kept : Kept NilE := fun _ _ _ _ h _ _ _ => h
theorem IfaceE.kept : Kept IfaceE := fun _ _ _ _ h _ _ _ => h

theorem Elem.shape {ks : ByteArray → List ByteArray} {S : Nat → Prop} {w : World} {v : Value} (h : Elem ks S w v) (hS : ∀ k, S k → k < w.heap.size) : ∃ T b, v = .iface T (.pointer (some ⟨b, 0, none⟩)) := by
  obtain ⟨T, f, b, e, _⟩ := h w.heap.size 0 ⟨#[]⟩ w (fun h => by have := hS _ h; omega) (Nat.le_refl _) (fun _ _ => rfl)
  exact ⟨T, b, e⟩

/-- Kept along a way on which nothing that was there turns. -/
theorem Kept.below {E : ElemP} (hE : Kept E) {S : Nat → Prop} {w w' : World} {v : Value} (h : E S w v) (hS : ∀ k, S k → k < w.heap.size) (hb : Below w.heap.size w w') : E S w' v := hE S w w' v h hS hb.size (fun k hk => hb.block k (hS k hk))

theorem block_cell {w : World} {b j : Nat} {cs : Array Value} {T : TypeId} {c : Value} (h : w.heap[b]? = some (.cells cs T (0, 0))) (hj : cs[j]? = some c) : w.cell? ⟨b, j, none⟩ = some c := by
  simp [World.cell?, h, hj]

/-- The blocks of a row and of its elements. -/
def RowS (v : Value) (m : Nat) (Ss : Nat → Nat → Prop) : Nat → Prop := fun k => v.ownBlock = some k ∨ ∃ i, i < m ∧ Ss i k

theorem RowOf.row {kk : Nat → ByteArray → List ByteArray} {f m lo : Nat} {w : World} {a : Option Addr} {cap : Nat} (h : RowOf (fun i => Elem (kk i)) f m lo w (.slice a m cap)) (hm : m ≤ 1000) :
    ∃ S : Nat → Prop, (∀ k, S k → lo ≤ k ∧ k < w.heap.size) ∧ ∀ o s stop w0, ¬ S o → w.heap.size ≤ w0.heap.size → (∀ k, S k → w0.heap[k]? = w.heap[k]?) → Row o s stop w0 a m ((List.range m).map fun i => kk (f + i) stop) := by
  obtain ⟨vs, hown, hel⟩ := h
  refine ⟨fun k => (Value.slice a m cap).ownBlock = some k ∨ ∃ i S, i < m ∧ S k ∧ (∀ k, S k → lo ≤ k ∧ k < w.heap.size ∧ (Value.slice a m cap).ownBlock ≠ some k) ∧ Elem (kk (f + i)) S w (vs.getD i .nilIface), fun k hk => ?_, fun o s stop w0 hno hsz hag => ?_⟩
  · rcases hk with hk | ⟨i, S, _, hk, hS, _⟩
    · exact hown.lt k hk
    · exact ⟨(hS k hk).1, (hS k hk).2.1⟩
  · refine ⟨by simp, hm, fun h0 => ?_⟩
    rcases hown.2 with ⟨e, e'⟩ | ⟨g, cap', cur, e, hlo, hcur, r⟩
    · omega
    · cases e
      have hbg : w0.heap[g]? = w.heap[g]? := hag g (.inl rfl)
      have hown0 := hown
      refine ⟨g, rfl, by have := lt_of_block hcur; omega, fun e => hno (.inl (by rw [← e]; rfl)), fun i hi => ?_⟩
      obtain ⟨S, hS, hE⟩ := hel i hi
      refine ⟨vs.getD i .nilIface, ?_, ?_⟩
      · have hl : vs.length = m := by have := hown.1; simpa using this
        rw [World.cell?_of_block (w := w) hbg, hown0.cellAt i (by omega)]
        simp [List.getD, show i < vs.length by omega]
      · have e2 : ((List.range m).map fun i => kk (f + i) stop).getD i [] = kk (f + i) stop := by simp [List.getD, hi]
        rw [e2]
        exact hE o s stop w0 (fun h => hno (.inr ⟨i, S, hi, h, hS, hE⟩)) hsz (fun k hk => hag k (.inr ⟨i, S, hi, hk, hS, hE⟩))

theorem mk_Name {w wF : World} {cs : Array Value} {T0 : TypeId} {nb : Nat} (hw : Below w.heap.size w wF) (hnb : nb = wF.heap.size) :
    Made (Elem fun stop => ⟨#[78, 97, 109, 101]⟩ :: (if (⟨#[78, 97, 109, 101]⟩ : ByteArray) = stop then [] else [])) w (.returned (.iface 40 (.pointer (some ⟨nb, 0, none⟩)))) (wF.alloc (.cells cs T0)) := by
  subst hnb
  refine ⟨_, fun k => k = wF.heap.size ∨ False, rfl, .inr ⟨_, _, rfl⟩, ?_, ?_, hw.alloc hw.size _⟩
  · have hsz := hw.size
    intro k hk
    simp only [size_alloc]
    rcases hk with rfl | hk
    · omega
    · exact hk.elim
  · intro o s stop w0 hno hsz hag
    simp only [size_alloc] at hsz
    have hblk : w0.heap[wF.heap.size]? = some (.cells cs T0 (0, 0)) := by rw [hag _ (.inl rfl)]; exact heap_alloc_new wF _
    have hold : ∀ k, k < wF.heap.size → (wF.alloc (.cells cs T0)).heap[k]? = wF.heap[k]? := fun k hk => Below.heap_alloc wF _ k hk
    have := hold
    exact tr_Name o s _ stop w0 (lt_of_block hblk) (fun e => hno (.inl e.symm))
theorem mk_BuiltinType {w wF : World} {cs : Array Value} {T0 : TypeId} {nb : Nat} (hw : Below w.heap.size w wF) (hnb : nb = wF.heap.size) :
    Made (Elem fun stop => ⟨#[66, 117, 105, 108, 116, 105, 110, 84, 121, 112, 101]⟩ :: (if (⟨#[66, 117, 105, 108, 116, 105, 110, 84, 121, 112, 101]⟩ : ByteArray) = stop then [] else [])) w (.returned (.iface 43 (.pointer (some ⟨nb, 0, none⟩)))) (wF.alloc (.cells cs T0)) := by
  subst hnb
  refine ⟨_, fun k => k = wF.heap.size ∨ False, rfl, .inr ⟨_, _, rfl⟩, ?_, ?_, hw.alloc hw.size _⟩
  · have hsz := hw.size
    intro k hk
    simp only [size_alloc]
    rcases hk with rfl | hk
    · omega
    · exact hk.elim
  · intro o s stop w0 hno hsz hag
    simp only [size_alloc] at hsz
    have hblk : w0.heap[wF.heap.size]? = some (.cells cs T0 (0, 0)) := by rw [hag _ (.inl rfl)]; exact heap_alloc_new wF _
    have hold : ∀ k, k < wF.heap.size → (wF.alloc (.cells cs T0)).heap[k]? = wF.heap[k]? := fun k hk => Below.heap_alloc wF _ k hk
    have := hold
    exact tr_BuiltinType o s _ stop w0 (lt_of_block hblk) (fun e => hno (.inl e.symm))
theorem mk_Operator {w wF : World} {cs : Array Value} {T0 : TypeId} {nb : Nat} (hw : Below w.heap.size w wF) (hnb : nb = wF.heap.size) :
    Made (Elem fun stop => ⟨#[79, 112, 101, 114, 97, 116, 111, 114]⟩ :: (if (⟨#[79, 112, 101, 114, 97, 116, 111, 114]⟩ : ByteArray) = stop then [] else [])) w (.returned (.iface 45 (.pointer (some ⟨nb, 0, none⟩)))) (wF.alloc (.cells cs T0)) := by
  subst hnb
  refine ⟨_, fun k => k = wF.heap.size ∨ False, rfl, .inr ⟨_, _, rfl⟩, ?_, ?_, hw.alloc hw.size _⟩
  · have hsz := hw.size
    intro k hk
    simp only [size_alloc]
    rcases hk with rfl | hk
    · omega
    · exact hk.elim
  · intro o s stop w0 hno hsz hag
    simp only [size_alloc] at hsz
    have hblk : w0.heap[wF.heap.size]? = some (.cells cs T0 (0, 0)) := by rw [hag _ (.inl rfl)]; exact heap_alloc_new wF _
    have hold : ∀ k, k < wF.heap.size → (wF.alloc (.cells cs T0)).heap[k]? = wF.heap[k]? := fun k hk => Below.heap_alloc wF _ k hk
    have := hold
    exact tr_Operator o s _ stop w0 (lt_of_block hblk) (fun e => hno (.inl e.symm))
theorem mk_UnnamedType {w wF : World} {cs : Array Value} {T0 : TypeId} {nb : Nat} (hw : Below w.heap.size w wF) (hnb : nb = wF.heap.size) :
    Made (Elem fun stop => ⟨#[85, 110, 110, 97, 109, 101, 100, 84, 121, 112, 101]⟩ :: (if (⟨#[85, 110, 110, 97, 109, 101, 100, 84, 121, 112, 101]⟩ : ByteArray) = stop then [] else [])) w (.returned (.iface 125 (.pointer (some ⟨nb, 0, none⟩)))) (wF.alloc (.cells cs T0)) := by
  subst hnb
  refine ⟨_, fun k => k = wF.heap.size ∨ False, rfl, .inr ⟨_, _, rfl⟩, ?_, ?_, hw.alloc hw.size _⟩
  · have hsz := hw.size
    intro k hk
    simp only [size_alloc]
    rcases hk with rfl | hk
    · omega
    · exact hk.elim
  · intro o s stop w0 hno hsz hag
    simp only [size_alloc] at hsz
    have hblk : w0.heap[wF.heap.size]? = some (.cells cs T0 (0, 0)) := by rw [hag _ (.inl rfl)]; exact heap_alloc_new wF _
    have hold : ∀ k, k < wF.heap.size → (wF.alloc (.cells cs T0)).heap[k]? = wF.heap[k]? := fun k hk => Below.heap_alloc wF _ k hk
    have := hold
    exact tr_UnnamedType o s _ stop w0 (lt_of_block hblk) (fun e => hno (.inl e.symm))
theorem mk_PointerType {w wF : World} {cs : Array Value} {T0 : TypeId} {nb : Nat} (hw : Below w.heap.size w wF) (hnb : nb = wF.heap.size) {c : Value} {S : Nat → Prop} {ks : ByteArray → List ByteArray} (hS : ∀ k, S k → w.heap.size ≤ k ∧ k < wF.heap.size) (he : Elem ks S wF c) (h0 : cs[0]? = some c) :
    Made (Elem fun stop => ⟨#[80, 111, 105, 110, 116, 101, 114, 84, 121, 112, 101]⟩ :: (if (⟨#[80, 111, 105, 110, 116, 101, 114, 84, 121, 112, 101]⟩ : ByteArray) = stop then [] else ks stop)) w (.returned (.iface 70 (.pointer (some ⟨nb, 0, none⟩)))) (wF.alloc (.cells cs T0)) := by
  subst hnb
  refine ⟨_, fun k => k = wF.heap.size ∨ S k, rfl, .inr ⟨_, _, rfl⟩, ?_, ?_, hw.alloc hw.size _⟩
  · have hsz := hw.size
    intro k hk
    simp only [size_alloc]
    rcases hk with rfl | hk
    · omega
    · have := hS k hk; omega
  · intro o s stop w0 hno hsz hag
    simp only [size_alloc] at hsz
    have hblk : w0.heap[wF.heap.size]? = some (.cells cs T0 (0, 0)) := by rw [hag _ (.inl rfl)]; exact heap_alloc_new wF _
    have hold : ∀ k, k < wF.heap.size → (wF.alloc (.cells cs T0)).heap[k]? = wF.heap[k]? := fun k hk => Below.heap_alloc wF _ k hk
    exact tr_PointerType o s _ stop w0 c (ks stop) (he o s stop w0 (fun h => hno (.inr h)) (by omega) (fun k hk => by rw [hag k (.inr hk), hold k (hS k hk).2])) (block_cell hblk h0) (lt_of_block hblk) (fun e => hno (.inl e.symm))
theorem mk_ReferenceType {w wF : World} {cs : Array Value} {T0 : TypeId} {nb : Nat} (hw : Below w.heap.size w wF) (hnb : nb = wF.heap.size) {c : Value} {S : Nat → Prop} {ks : ByteArray → List ByteArray} (hS : ∀ k, S k → w.heap.size ≤ k ∧ k < wF.heap.size) (he : Elem ks S wF c) (h0 : cs[0]? = some c) :
    Made (Elem fun stop => ⟨#[82, 101, 102, 101, 114, 101, 110, 99, 101, 84, 121, 112, 101]⟩ :: (if (⟨#[82, 101, 102, 101, 114, 101, 110, 99, 101, 84, 121, 112, 101]⟩ : ByteArray) = stop then [] else ks stop)) w (.returned (.iface 73 (.pointer (some ⟨nb, 0, none⟩)))) (wF.alloc (.cells cs T0)) := by
  subst hnb
  refine ⟨_, fun k => k = wF.heap.size ∨ S k, rfl, .inr ⟨_, _, rfl⟩, ?_, ?_, hw.alloc hw.size _⟩
  · have hsz := hw.size
    intro k hk
    simp only [size_alloc]
    rcases hk with rfl | hk
    · omega
    · have := hS k hk; omega
  · intro o s stop w0 hno hsz hag
    simp only [size_alloc] at hsz
    have hblk : w0.heap[wF.heap.size]? = some (.cells cs T0 (0, 0)) := by rw [hag _ (.inl rfl)]; exact heap_alloc_new wF _
    have hold : ∀ k, k < wF.heap.size → (wF.alloc (.cells cs T0)).heap[k]? = wF.heap[k]? := fun k hk => Below.heap_alloc wF _ k hk
    exact tr_ReferenceType o s _ stop w0 c (ks stop) (he o s stop w0 (fun h => hno (.inr h)) (by omega) (fun k hk => by rw [hag k (.inr hk), hold k (hS k hk).2])) (block_cell hblk h0) (lt_of_block hblk) (fun e => hno (.inl e.symm))
theorem mk_RvalueReferenceType {w wF : World} {cs : Array Value} {T0 : TypeId} {nb : Nat} (hw : Below w.heap.size w wF) (hnb : nb = wF.heap.size) {c : Value} {S : Nat → Prop} {ks : ByteArray → List ByteArray} (hS : ∀ k, S k → w.heap.size ≤ k ∧ k < wF.heap.size) (he : Elem ks S wF c) (h0 : cs[0]? = some c) :
    Made (Elem fun stop => ⟨#[82, 118, 97, 108, 117, 101, 82, 101, 102, 101, 114, 101, 110, 99, 101, 84, 121, 112, 101]⟩ :: (if (⟨#[82, 118, 97, 108, 117, 101, 82, 101, 102, 101, 114, 101, 110, 99, 101, 84, 121, 112, 101]⟩ : ByteArray) = stop then [] else ks stop)) w (.returned (.iface 75 (.pointer (some ⟨nb, 0, none⟩)))) (wF.alloc (.cells cs T0)) := by
  subst hnb
  refine ⟨_, fun k => k = wF.heap.size ∨ S k, rfl, .inr ⟨_, _, rfl⟩, ?_, ?_, hw.alloc hw.size _⟩
  · have hsz := hw.size
    intro k hk
    simp only [size_alloc]
    rcases hk with rfl | hk
    · omega
    · have := hS k hk; omega
  · intro o s stop w0 hno hsz hag
    simp only [size_alloc] at hsz
    have hblk : w0.heap[wF.heap.size]? = some (.cells cs T0 (0, 0)) := by rw [hag _ (.inl rfl)]; exact heap_alloc_new wF _
    have hold : ∀ k, k < wF.heap.size → (wF.alloc (.cells cs T0)).heap[k]? = wF.heap[k]? := fun k hk => Below.heap_alloc wF _ k hk
    exact tr_RvalueReferenceType o s _ stop w0 c (ks stop) (he o s stop w0 (fun h => hno (.inr h)) (by omega) (fun k hk => by rw [hag k (.inr hk), hold k (hS k hk).2])) (block_cell hblk h0) (lt_of_block hblk) (fun e => hno (.inl e.symm))
theorem mk_ComplexType {w wF : World} {cs : Array Value} {T0 : TypeId} {nb : Nat} (hw : Below w.heap.size w wF) (hnb : nb = wF.heap.size) {c : Value} {S : Nat → Prop} {ks : ByteArray → List ByteArray} (hS : ∀ k, S k → w.heap.size ≤ k ∧ k < wF.heap.size) (he : Elem ks S wF c) (h0 : cs[0]? = some c) :
    Made (Elem fun stop => ⟨#[67, 111, 109, 112, 108, 101, 120, 84, 121, 112, 101]⟩ :: (if (⟨#[67, 111, 109, 112, 108, 101, 120, 84, 121, 112, 101]⟩ : ByteArray) = stop then [] else ks stop)) w (.returned (.iface 77 (.pointer (some ⟨nb, 0, none⟩)))) (wF.alloc (.cells cs T0)) := by
  subst hnb
  refine ⟨_, fun k => k = wF.heap.size ∨ S k, rfl, .inr ⟨_, _, rfl⟩, ?_, ?_, hw.alloc hw.size _⟩
  · have hsz := hw.size
    intro k hk
    simp only [size_alloc]
    rcases hk with rfl | hk
    · omega
    · have := hS k hk; omega
  · intro o s stop w0 hno hsz hag
    simp only [size_alloc] at hsz
    have hblk : w0.heap[wF.heap.size]? = some (.cells cs T0 (0, 0)) := by rw [hag _ (.inl rfl)]; exact heap_alloc_new wF _
    have hold : ∀ k, k < wF.heap.size → (wF.alloc (.cells cs T0)).heap[k]? = wF.heap[k]? := fun k hk => Below.heap_alloc wF _ k hk
    exact tr_ComplexType o s _ stop w0 c (ks stop) (he o s stop w0 (fun h => hno (.inr h)) (by omega) (fun k hk => by rw [hag k (.inr hk), hold k (hS k hk).2])) (block_cell hblk h0) (lt_of_block hblk) (fun e => hno (.inl e.symm))
theorem mk_ImaginaryType {w wF : World} {cs : Array Value} {T0 : TypeId} {nb : Nat} (hw : Below w.heap.size w wF) (hnb : nb = wF.heap.size) {c : Value} {S : Nat → Prop} {ks : ByteArray → List ByteArray} (hS : ∀ k, S k → w.heap.size ≤ k ∧ k < wF.heap.size) (he : Elem ks S wF c) (h0 : cs[0]? = some c) :
    Made (Elem fun stop => ⟨#[73, 109, 97, 103, 105, 110, 97, 114, 121, 84, 121, 112, 101]⟩ :: (if (⟨#[73, 109, 97, 103, 105, 110, 97, 114, 121, 84, 121, 112, 101]⟩ : ByteArray) = stop then [] else ks stop)) w (.returned (.iface 79 (.pointer (some ⟨nb, 0, none⟩)))) (wF.alloc (.cells cs T0)) := by
  subst hnb
  refine ⟨_, fun k => k = wF.heap.size ∨ S k, rfl, .inr ⟨_, _, rfl⟩, ?_, ?_, hw.alloc hw.size _⟩
  · have hsz := hw.size
    intro k hk
    simp only [size_alloc]
    rcases hk with rfl | hk
    · omega
    · have := hS k hk; omega
  · intro o s stop w0 hno hsz hag
    simp only [size_alloc] at hsz
    have hblk : w0.heap[wF.heap.size]? = some (.cells cs T0 (0, 0)) := by rw [hag _ (.inl rfl)]; exact heap_alloc_new wF _
    have hold : ∀ k, k < wF.heap.size → (wF.alloc (.cells cs T0)).heap[k]? = wF.heap[k]? := fun k hk => Below.heap_alloc wF _ k hk
    exact tr_ImaginaryType o s _ stop w0 c (ks stop) (he o s stop w0 (fun h => hno (.inr h)) (by omega) (fun k hk => by rw [hag k (.inr hk), hold k (hS k hk).2])) (block_cell hblk h0) (lt_of_block hblk) (fun e => hno (.inl e.symm))
theorem mk_Constructor {w wF : World} {cs : Array Value} {T0 : TypeId} {nb : Nat} (hw : Below w.heap.size w wF) (hnb : nb = wF.heap.size) {c : Value} {S : Nat → Prop} {ks : ByteArray → List ByteArray} (hS : ∀ k, S k → w.heap.size ≤ k ∧ k < wF.heap.size) (he : Elem ks S wF c) (h0 : cs[0]? = some c) (h1 : cs[1]? = some .nilIface) :
    Made (Elem fun stop => ⟨#[67, 111, 110, 115, 116, 114, 117, 99, 116, 111, 114]⟩ :: (if (⟨#[67, 111, 110, 115, 116, 114, 117, 99, 116, 111, 114]⟩ : ByteArray) = stop then [] else ks stop)) w (.returned (.iface 49 (.pointer (some ⟨nb, 0, none⟩)))) (wF.alloc (.cells cs T0)) := by
  subst hnb
  refine ⟨_, fun k => k = wF.heap.size ∨ S k, rfl, .inr ⟨_, _, rfl⟩, ?_, ?_, hw.alloc hw.size _⟩
  · have hsz := hw.size
    intro k hk
    simp only [size_alloc]
    rcases hk with rfl | hk
    · omega
    · have := hS k hk; omega
  · intro o s stop w0 hno hsz hag
    simp only [size_alloc] at hsz
    have hblk : w0.heap[wF.heap.size]? = some (.cells cs T0 (0, 0)) := by rw [hag _ (.inl rfl)]; exact heap_alloc_new wF _
    have hold : ∀ k, k < wF.heap.size → (wF.alloc (.cells cs T0)).heap[k]? = wF.heap[k]? := fun k hk => Below.heap_alloc wF _ k hk
    exact tr_Constructor o s _ stop w0 c (ks stop) (he o s stop w0 (fun h => hno (.inr h)) (by omega) (fun k hk => by rw [hag k (.inr hk), hold k (hS k hk).2])) (block_cell hblk h0) (block_cell hblk h1) (lt_of_block hblk) (fun e => hno (.inl e.symm))
theorem mk_Destructor {w wF : World} {cs : Array Value} {T0 : TypeId} {nb : Nat} (hw : Below w.heap.size w wF) (hnb : nb = wF.heap.size) {c : Value} {S : Nat → Prop} {ks : ByteArray → List ByteArray} (hS : ∀ k, S k → w.heap.size ≤ k ∧ k < wF.heap.size) (he : Elem ks S wF c) (h0 : cs[0]? = some c) :
    Made (Elem fun stop => ⟨#[68, 101, 115, 116, 114, 117, 99, 116, 111, 114]⟩ :: (if (⟨#[68, 101, 115, 116, 114, 117, 99, 116, 111, 114]⟩ : ByteArray) = stop then [] else ks stop)) w (.returned (.iface 53 (.pointer (some ⟨nb, 0, none⟩)))) (wF.alloc (.cells cs T0)) := by
  subst hnb
  refine ⟨_, fun k => k = wF.heap.size ∨ S k, rfl, .inr ⟨_, _, rfl⟩, ?_, ?_, hw.alloc hw.size _⟩
  · have hsz := hw.size
    intro k hk
    simp only [size_alloc]
    rcases hk with rfl | hk
    · omega
    · have := hS k hk; omega
  · intro o s stop w0 hno hsz hag
    simp only [size_alloc] at hsz
    have hblk : w0.heap[wF.heap.size]? = some (.cells cs T0 (0, 0)) := by rw [hag _ (.inl rfl)]; exact heap_alloc_new wF _
    have hold : ∀ k, k < wF.heap.size → (wF.alloc (.cells cs T0)).heap[k]? = wF.heap[k]? := fun k hk => Below.heap_alloc wF _ k hk
    exact tr_Destructor o s _ stop w0 c (ks stop) (he o s stop w0 (fun h => hno (.inr h)) (by omega) (fun k hk => by rw [hag k (.inr hk), hold k (hS k hk).2])) (block_cell hblk h0) (lt_of_block hblk) (fun e => hno (.inl e.symm))
theorem mk_Cast {w wF : World} {cs : Array Value} {T0 : TypeId} {nb : Nat} (hw : Below w.heap.size w wF) (hnb : nb = wF.heap.size) {c : Value} {S : Nat → Prop} {ks : ByteArray → List ByteArray} (hS : ∀ k, S k → w.heap.size ≤ k ∧ k < wF.heap.size) (he : Elem ks S wF c) (h0 : cs[0]? = some c) :
    Made (Elem fun stop => ⟨#[67, 97, 115, 116]⟩ :: (if (⟨#[67, 97, 115, 116]⟩ : ByteArray) = stop then [] else ks stop)) w (.returned (.iface 140 (.pointer (some ⟨nb, 0, none⟩)))) (wF.alloc (.cells cs T0)) := by
  subst hnb
  refine ⟨_, fun k => k = wF.heap.size ∨ S k, rfl, .inr ⟨_, _, rfl⟩, ?_, ?_, hw.alloc hw.size _⟩
  · have hsz := hw.size
    intro k hk
    simp only [size_alloc]
    rcases hk with rfl | hk
    · omega
    · have := hS k hk; omega
  · intro o s stop w0 hno hsz hag
    simp only [size_alloc] at hsz
    have hblk : w0.heap[wF.heap.size]? = some (.cells cs T0 (0, 0)) := by rw [hag _ (.inl rfl)]; exact heap_alloc_new wF _
    have hold : ∀ k, k < wF.heap.size → (wF.alloc (.cells cs T0)).heap[k]? = wF.heap[k]? := fun k hk => Below.heap_alloc wF _ k hk
    exact tr_Cast o s _ stop w0 c (ks stop) (he o s stop w0 (fun h => hno (.inr h)) (by omega) (fun k hk => by rw [hag k (.inr hk), hold k (hS k hk).2])) (block_cell hblk h0) (lt_of_block hblk) (fun e => hno (.inl e.symm))
theorem mk_Literal {w wF : World} {cs : Array Value} {T0 : TypeId} {nb : Nat} (hw : Below w.heap.size w wF) (hnb : nb = wF.heap.size) {c : Value} {S : Nat → Prop} {ks : ByteArray → List ByteArray} (hS : ∀ k, S k → w.heap.size ≤ k ∧ k < wF.heap.size) (he : Elem ks S wF c) (h0 : cs[0]? = some c) :
    Made (Elem fun stop => ⟨#[76, 105, 116, 101, 114, 97, 108]⟩ :: (if (⟨#[76, 105, 116, 101, 114, 97, 108]⟩ : ByteArray) = stop then [] else ks stop)) w (.returned (.iface 112 (.pointer (some ⟨nb, 0, none⟩)))) (wF.alloc (.cells cs T0)) := by
  subst hnb
  refine ⟨_, fun k => k = wF.heap.size ∨ S k, rfl, .inr ⟨_, _, rfl⟩, ?_, ?_, hw.alloc hw.size _⟩
  · have hsz := hw.size
    intro k hk
    simp only [size_alloc]
    rcases hk with rfl | hk
    · omega
    · have := hS k hk; omega
  · intro o s stop w0 hno hsz hag
    simp only [size_alloc] at hsz
    have hblk : w0.heap[wF.heap.size]? = some (.cells cs T0 (0, 0)) := by rw [hag _ (.inl rfl)]; exact heap_alloc_new wF _
    have hold : ∀ k, k < wF.heap.size → (wF.alloc (.cells cs T0)).heap[k]? = wF.heap[k]? := fun k hk => Below.heap_alloc wF _ k hk
    exact tr_Literal o s _ stop w0 c (ks stop) (he o s stop w0 (fun h => hno (.inr h)) (by omega) (fun k hk => by rw [hag k (.inr hk), hold k (hS k hk).2])) (block_cell hblk h0) (lt_of_block hblk) (fun e => hno (.inl e.symm))
theorem mk_TypeWithQualifiers {w wF : World} {cs : Array Value} {T0 : TypeId} {nb : Nat} (hw : Below w.heap.size w wF) (hnb : nb = wF.heap.size) {c : Value} {S : Nat → Prop} {ks : ByteArray → List ByteArray} (hS : ∀ k, S k → w.heap.size ≤ k ∧ k < wF.heap.size) (he : Elem ks S wF c) (h0 : cs[0]? = some c) :
    Made (Elem fun stop => ⟨#[84, 121, 112, 101, 87, 105, 116, 104, 81, 117, 97, 108, 105, 102, 105, 101, 114, 115]⟩ :: (if (⟨#[84, 121, 112, 101, 87, 105, 116, 104, 81, 117, 97, 108, 105, 102, 105, 101, 114, 115]⟩ : ByteArray) = stop then [] else ks stop)) w (.returned (.iface 81 (.pointer (some ⟨nb, 0, none⟩)))) (wF.alloc (.cells cs T0)) := by
  subst hnb
  refine ⟨_, fun k => k = wF.heap.size ∨ S k, rfl, .inr ⟨_, _, rfl⟩, ?_, ?_, hw.alloc hw.size _⟩
  · have hsz := hw.size
    intro k hk
    simp only [size_alloc]
    rcases hk with rfl | hk
    · omega
    · have := hS k hk; omega
  · intro o s stop w0 hno hsz hag
    simp only [size_alloc] at hsz
    have hblk : w0.heap[wF.heap.size]? = some (.cells cs T0 (0, 0)) := by rw [hag _ (.inl rfl)]; exact heap_alloc_new wF _
    have hold : ∀ k, k < wF.heap.size → (wF.alloc (.cells cs T0)).heap[k]? = wF.heap[k]? := fun k hk => Below.heap_alloc wF _ k hk
    exact tr_TypeWithQualifiers o s _ stop w0 c (ks stop) (he o s stop w0 (fun h => hno (.inr h)) (by omega) (fun k hk => by rw [hag k (.inr hk), hold k (hS k hk).2])) (block_cell hblk h0) (lt_of_block hblk) (fun e => hno (.inl e.symm))
theorem mk_MethodWithQualifiers {w wF : World} {cs : Array Value} {T0 : TypeId} {nb : Nat} (hw : Below w.heap.size w wF) (hnb : nb = wF.heap.size) {c : Value} {S : Nat → Prop} {ks : ByteArray → List ByteArray} (hS : ∀ k, S k → w.heap.size ≤ k ∧ k < wF.heap.size) (he : Elem ks S wF c) (h0 : cs[0]? = some c) :
    Made (Elem fun stop => ⟨#[77, 101, 116, 104, 111, 100, 87, 105, 116, 104, 81, 117, 97, 108, 105, 102, 105, 101, 114, 115]⟩ :: (if (⟨#[77, 101, 116, 104, 111, 100, 87, 105, 116, 104, 81, 117, 97, 108, 105, 102, 105, 101, 114, 115]⟩ : ByteArray) = stop then [] else ks stop)) w (.returned (.iface 90 (.pointer (some ⟨nb, 0, none⟩)))) (wF.alloc (.cells cs T0)) := by
  subst hnb
  refine ⟨_, fun k => k = wF.heap.size ∨ S k, rfl, .inr ⟨_, _, rfl⟩, ?_, ?_, hw.alloc hw.size _⟩
  · have hsz := hw.size
    intro k hk
    simp only [size_alloc]
    rcases hk with rfl | hk
    · omega
    · have := hS k hk; omega
  · intro o s stop w0 hno hsz hag
    simp only [size_alloc] at hsz
    have hblk : w0.heap[wF.heap.size]? = some (.cells cs T0 (0, 0)) := by rw [hag _ (.inl rfl)]; exact heap_alloc_new wF _
    have hold : ∀ k, k < wF.heap.size → (wF.alloc (.cells cs T0)).heap[k]? = wF.heap[k]? := fun k hk => Below.heap_alloc wF _ k hk
    exact tr_MethodWithQualifiers o s _ stop w0 c (ks stop) (he o s stop w0 (fun h => hno (.inr h)) (by omega) (fun k hk => by rw [hag k (.inr hk), hold k (hS k hk).2])) (block_cell hblk h0) (lt_of_block hblk) (fun e => hno (.inl e.symm))
theorem mk_Qualified {w wF : World} {cs : Array Value} {T0 : TypeId} {nb : Nat} (hw : Below w.heap.size w wF) (hnb : nb = wF.heap.size) {c c2 : Value} {S S2 : Nat → Prop} {ks ks2 : ByteArray → List ByteArray} (hS : ∀ k, S k → w.heap.size ≤ k ∧ k < wF.heap.size) (he : Elem ks S wF c) (h0 : cs[0]? = some c) (hS2 : ∀ k, S2 k → w.heap.size ≤ k ∧ k < wF.heap.size) (he2 : Elem ks2 S2 wF c2) (h1 : cs[1]? = some c2) :
    Made (Elem fun stop => ⟨#[81, 117, 97, 108, 105, 102, 105, 101, 100]⟩ :: (if (⟨#[81, 117, 97, 108, 105, 102, 105, 101, 100]⟩ : ByteArray) = stop then [] else ks stop ++ ks2 stop)) w (.returned (.iface 56 (.pointer (some ⟨nb, 0, none⟩)))) (wF.alloc (.cells cs T0)) := by
  subst hnb
  refine ⟨_, fun k => k = wF.heap.size ∨ S k ∨ S2 k, rfl, .inr ⟨_, _, rfl⟩, ?_, ?_, hw.alloc hw.size _⟩
  · have hsz := hw.size
    intro k hk
    simp only [size_alloc]
    rcases hk with rfl | hk | hk
    · omega
    · have := hS k hk; omega
    · have := hS2 k hk; omega
  · intro o s stop w0 hno hsz hag
    simp only [size_alloc] at hsz
    have hblk : w0.heap[wF.heap.size]? = some (.cells cs T0 (0, 0)) := by rw [hag _ (.inl rfl)]; exact heap_alloc_new wF _
    have hold : ∀ k, k < wF.heap.size → (wF.alloc (.cells cs T0)).heap[k]? = wF.heap[k]? := fun k hk => Below.heap_alloc wF _ k hk
    exact tr_Qualified o s _ stop w0 c c2 (ks stop) (ks2 stop) (he o s stop w0 (fun h => hno (.inr (.inl h))) (by omega) (fun k hk => by rw [hag k (.inr (.inl hk)), hold k (hS k hk).2])) (he2 o s stop w0 (fun h => hno (.inr (.inr h))) (by omega) (fun k hk => by rw [hag k (.inr (.inr hk)), hold k (hS2 k hk).2])) (block_cell hblk h0) (block_cell hblk h1) (lt_of_block hblk) (fun e => hno (.inl e.symm))
theorem mk_Typed {w wF : World} {cs : Array Value} {T0 : TypeId} {nb : Nat} (hw : Below w.heap.size w wF) (hnb : nb = wF.heap.size) {c c2 : Value} {S S2 : Nat → Prop} {ks ks2 : ByteArray → List ByteArray} (hS : ∀ k, S k → w.heap.size ≤ k ∧ k < wF.heap.size) (he : Elem ks S wF c) (h0 : cs[0]? = some c) (hS2 : ∀ k, S2 k → w.heap.size ≤ k ∧ k < wF.heap.size) (he2 : Elem ks2 S2 wF c2) (h1 : cs[1]? = some c2) :
    Made (Elem fun stop => ⟨#[84, 121, 112, 101, 100]⟩ :: (if (⟨#[84, 121, 112, 101, 100]⟩ : ByteArray) = stop then [] else ks stop ++ ks2 stop)) w (.returned (.iface 64 (.pointer (some ⟨nb, 0, none⟩)))) (wF.alloc (.cells cs T0)) := by
  subst hnb
  refine ⟨_, fun k => k = wF.heap.size ∨ S k ∨ S2 k, rfl, .inr ⟨_, _, rfl⟩, ?_, ?_, hw.alloc hw.size _⟩
  · have hsz := hw.size
    intro k hk
    simp only [size_alloc]
    rcases hk with rfl | hk | hk
    · omega
    · have := hS k hk; omega
    · have := hS2 k hk; omega
  · intro o s stop w0 hno hsz hag
    simp only [size_alloc] at hsz
    have hblk : w0.heap[wF.heap.size]? = some (.cells cs T0 (0, 0)) := by rw [hag _ (.inl rfl)]; exact heap_alloc_new wF _
    have hold : ∀ k, k < wF.heap.size → (wF.alloc (.cells cs T0)).heap[k]? = wF.heap[k]? := fun k hk => Below.heap_alloc wF _ k hk
    exact tr_Typed o s _ stop w0 c c2 (ks stop) (ks2 stop) (he o s stop w0 (fun h => hno (.inr (.inl h))) (by omega) (fun k hk => by rw [hag k (.inr (.inl hk)), hold k (hS k hk).2])) (he2 o s stop w0 (fun h => hno (.inr (.inr h))) (by omega) (fun k hk => by rw [hag k (.inr (.inr hk)), hold k (hS2 k hk).2])) (block_cell hblk h0) (block_cell hblk h1) (lt_of_block hblk) (fun e => hno (.inl e.symm))
theorem mk_ArrayType {w wF : World} {cs : Array Value} {T0 : TypeId} {nb : Nat} (hw : Below w.heap.size w wF) (hnb : nb = wF.heap.size) {c c2 : Value} {S S2 : Nat → Prop} {ks ks2 : ByteArray → List ByteArray} (hS : ∀ k, S k → w.heap.size ≤ k ∧ k < wF.heap.size) (he : Elem ks S wF c) (h0 : cs[0]? = some c) (hS2 : ∀ k, S2 k → w.heap.size ≤ k ∧ k < wF.heap.size) (he2 : Elem ks2 S2 wF c2) (h1 : cs[1]? = some c2) :
    Made (Elem fun stop => ⟨#[65, 114, 114, 97, 121, 84, 121, 112, 101]⟩ :: (if (⟨#[65, 114, 114, 97, 121, 84, 121, 112, 101]⟩ : ByteArray) = stop then [] else ks stop ++ ks2 stop)) w (.returned (.iface 94 (.pointer (some ⟨nb, 0, none⟩)))) (wF.alloc (.cells cs T0)) := by
  subst hnb
  refine ⟨_, fun k => k = wF.heap.size ∨ S k ∨ S2 k, rfl, .inr ⟨_, _, rfl⟩, ?_, ?_, hw.alloc hw.size _⟩
  · have hsz := hw.size
    intro k hk
    simp only [size_alloc]
    rcases hk with rfl | hk | hk
    · omega
    · have := hS k hk; omega
    · have := hS2 k hk; omega
  · intro o s stop w0 hno hsz hag
    simp only [size_alloc] at hsz
    have hblk : w0.heap[wF.heap.size]? = some (.cells cs T0 (0, 0)) := by rw [hag _ (.inl rfl)]; exact heap_alloc_new wF _
    have hold : ∀ k, k < wF.heap.size → (wF.alloc (.cells cs T0)).heap[k]? = wF.heap[k]? := fun k hk => Below.heap_alloc wF _ k hk
    exact tr_ArrayType o s _ stop w0 c c2 (ks stop) (ks2 stop) (he o s stop w0 (fun h => hno (.inr (.inl h))) (by omega) (fun k hk => by rw [hag k (.inr (.inl hk)), hold k (hS k hk).2])) (he2 o s stop w0 (fun h => hno (.inr (.inr h))) (by omega) (fun k hk => by rw [hag k (.inr (.inr hk)), hold k (hS2 k hk).2])) (block_cell hblk h0) (block_cell hblk h1) (lt_of_block hblk) (fun e => hno (.inl e.symm))
theorem mk_PtrMem {w wF : World} {cs : Array Value} {T0 : TypeId} {nb : Nat} (hw : Below w.heap.size w wF) (hnb : nb = wF.heap.size) {c c2 : Value} {S S2 : Nat → Prop} {ks ks2 : ByteArray → List ByteArray} (hS : ∀ k, S k → w.heap.size ≤ k ∧ k < wF.heap.size) (he : Elem ks S wF c) (h0 : cs[0]? = some c) (hS2 : ∀ k, S2 k → w.heap.size ≤ k ∧ k < wF.heap.size) (he2 : Elem ks2 S2 wF c2) (h1 : cs[1]? = some c2) :
    Made (Elem fun stop => ⟨#[80, 116, 114, 77, 101, 109]⟩ :: (if (⟨#[80, 116, 114, 77, 101, 109]⟩ : ByteArray) = stop then [] else ks stop ++ ks2 stop)) w (.returned (.iface 100 (.pointer (some ⟨nb, 0, none⟩)))) (wF.alloc (.cells cs T0)) := by
  subst hnb
  refine ⟨_, fun k => k = wF.heap.size ∨ S k ∨ S2 k, rfl, .inr ⟨_, _, rfl⟩, ?_, ?_, hw.alloc hw.size _⟩
  · have hsz := hw.size
    intro k hk
    simp only [size_alloc]
    rcases hk with rfl | hk | hk
    · omega
    · have := hS k hk; omega
    · have := hS2 k hk; omega
  · intro o s stop w0 hno hsz hag
    simp only [size_alloc] at hsz
    have hblk : w0.heap[wF.heap.size]? = some (.cells cs T0 (0, 0)) := by rw [hag _ (.inl rfl)]; exact heap_alloc_new wF _
    have hold : ∀ k, k < wF.heap.size → (wF.alloc (.cells cs T0)).heap[k]? = wF.heap[k]? := fun k hk => Below.heap_alloc wF _ k hk
    exact tr_PtrMem o s _ stop w0 c c2 (ks stop) (ks2 stop) (he o s stop w0 (fun h => hno (.inr (.inl h))) (by omega) (fun k hk => by rw [hag k (.inr (.inl hk)), hold k (hS k hk).2])) (he2 o s stop w0 (fun h => hno (.inr (.inr h))) (by omega) (fun k hk => by rw [hag k (.inr (.inr hk)), hold k (hS2 k hk).2])) (block_cell hblk h0) (block_cell hblk h1) (lt_of_block hblk) (fun e => hno (.inl e.symm))
theorem mk_VectorType {w wF : World} {cs : Array Value} {T0 : TypeId} {nb : Nat} (hw : Below w.heap.size w wF) (hnb : nb = wF.heap.size) {c c2 : Value} {S S2 : Nat → Prop} {ks ks2 : ByteArray → List ByteArray} (hS : ∀ k, S k → w.heap.size ≤ k ∧ k < wF.heap.size) (he : Elem ks S wF c) (h0 : cs[0]? = some c) (hS2 : ∀ k, S2 k → w.heap.size ≤ k ∧ k < wF.heap.size) (he2 : Elem ks2 S2 wF c2) (h1 : cs[1]? = some c2) :
    Made (Elem fun stop => ⟨#[86, 101, 99, 116, 111, 114, 84, 121, 112, 101]⟩ :: (if (⟨#[86, 101, 99, 116, 111, 114, 84, 121, 112, 101]⟩ : ByteArray) = stop then [] else ks stop ++ ks2 stop)) w (.returned (.iface 97 (.pointer (some ⟨nb, 0, none⟩)))) (wF.alloc (.cells cs T0)) := by
  subst hnb
  refine ⟨_, fun k => k = wF.heap.size ∨ S k ∨ S2 k, rfl, .inr ⟨_, _, rfl⟩, ?_, ?_, hw.alloc hw.size _⟩
  · have hsz := hw.size
    intro k hk
    simp only [size_alloc]
    rcases hk with rfl | hk | hk
    · omega
    · have := hS k hk; omega
    · have := hS2 k hk; omega
  · intro o s stop w0 hno hsz hag
    simp only [size_alloc] at hsz
    have hblk : w0.heap[wF.heap.size]? = some (.cells cs T0 (0, 0)) := by rw [hag _ (.inl rfl)]; exact heap_alloc_new wF _
    have hold : ∀ k, k < wF.heap.size → (wF.alloc (.cells cs T0)).heap[k]? = wF.heap[k]? := fun k hk => Below.heap_alloc wF _ k hk
    exact tr_VectorType o s _ stop w0 c c2 (ks stop) (ks2 stop) (he o s stop w0 (fun h => hno (.inr (.inl h))) (by omega) (fun k hk => by rw [hag k (.inr (.inl hk)), hold k (hS k hk).2])) (he2 o s stop w0 (fun h => hno (.inr (.inr h))) (by omega) (fun k hk => by rw [hag k (.inr (.inr hk)), hold k (hS2 k hk).2])) (block_cell hblk h0) (block_cell hblk h1) (lt_of_block hblk) (fun e => hno (.inl e.symm))
theorem mk_VendorQualifier {w wF : World} {cs : Array Value} {T0 : TypeId} {nb : Nat} (hw : Below w.heap.size w wF) (hnb : nb = wF.heap.size) {c c2 : Value} {S S2 : Nat → Prop} {ks ks2 : ByteArray → List ByteArray} (hS : ∀ k, S k → w.heap.size ≤ k ∧ k < wF.heap.size) (he : Elem ks S wF c) (h0 : cs[0]? = some c) (hS2 : ∀ k, S2 k → w.heap.size ≤ k ∧ k < wF.heap.size) (he2 : Elem ks2 S2 wF c2) (h1 : cs[1]? = some c2) :
    Made (Elem fun stop => ⟨#[86, 101, 110, 100, 111, 114, 81, 117, 97, 108, 105, 102, 105, 101, 114]⟩ :: (if (⟨#[86, 101, 110, 100, 111, 114, 81, 117, 97, 108, 105, 102, 105, 101, 114]⟩ : ByteArray) = stop then [] else ks stop ++ ks2 stop)) w (.returned (.iface 103 (.pointer (some ⟨nb, 0, none⟩)))) (wF.alloc (.cells cs T0)) := by
  subst hnb
  refine ⟨_, fun k => k = wF.heap.size ∨ S k ∨ S2 k, rfl, .inr ⟨_, _, rfl⟩, ?_, ?_, hw.alloc hw.size _⟩
  · have hsz := hw.size
    intro k hk
    simp only [size_alloc]
    rcases hk with rfl | hk | hk
    · omega
    · have := hS k hk; omega
    · have := hS2 k hk; omega
  · intro o s stop w0 hno hsz hag
    simp only [size_alloc] at hsz
    have hblk : w0.heap[wF.heap.size]? = some (.cells cs T0 (0, 0)) := by rw [hag _ (.inl rfl)]; exact heap_alloc_new wF _
    have hold : ∀ k, k < wF.heap.size → (wF.alloc (.cells cs T0)).heap[k]? = wF.heap[k]? := fun k hk => Below.heap_alloc wF _ k hk
    exact tr_VendorQualifier o s _ stop w0 c c2 (ks stop) (ks2 stop) (he o s stop w0 (fun h => hno (.inr (.inl h))) (by omega) (fun k hk => by rw [hag k (.inr (.inl hk)), hold k (hS k hk).2])) (he2 o s stop w0 (fun h => hno (.inr (.inr h))) (by omega) (fun k hk => by rw [hag k (.inr (.inr hk)), hold k (hS2 k hk).2])) (block_cell hblk h0) (block_cell hblk h1) (lt_of_block hblk) (fun e => hno (.inl e.symm))
theorem mk_TaggedName {w wF : World} {cs : Array Value} {T0 : TypeId} {nb : Nat} (hw : Below w.heap.size w wF) (hnb : nb = wF.heap.size) {c c2 : Value} {S S2 : Nat → Prop} {ks ks2 : ByteArray → List ByteArray} (hS : ∀ k, S k → w.heap.size ≤ k ∧ k < wF.heap.size) (he : Elem ks S wF c) (h0 : cs[0]? = some c) (hS2 : ∀ k, S2 k → w.heap.size ≤ k ∧ k < wF.heap.size) (he2 : Elem ks2 S2 wF c2) (h1 : cs[1]? = some c2) :
    Made (Elem fun stop => ⟨#[84, 97, 103, 103, 101, 100, 78, 97, 109, 101]⟩ :: (if (⟨#[84, 97, 103, 103, 101, 100, 78, 97, 109, 101]⟩ : ByteArray) = stop then [] else ks stop ++ ks2 stop)) w (.returned (.iface 128 (.pointer (some ⟨nb, 0, none⟩)))) (wF.alloc (.cells cs T0)) := by
  subst hnb
  refine ⟨_, fun k => k = wF.heap.size ∨ S k ∨ S2 k, rfl, .inr ⟨_, _, rfl⟩, ?_, ?_, hw.alloc hw.size _⟩
  · have hsz := hw.size
    intro k hk
    simp only [size_alloc]
    rcases hk with rfl | hk | hk
    · omega
    · have := hS k hk; omega
    · have := hS2 k hk; omega
  · intro o s stop w0 hno hsz hag
    simp only [size_alloc] at hsz
    have hblk : w0.heap[wF.heap.size]? = some (.cells cs T0 (0, 0)) := by rw [hag _ (.inl rfl)]; exact heap_alloc_new wF _
    have hold : ∀ k, k < wF.heap.size → (wF.alloc (.cells cs T0)).heap[k]? = wF.heap[k]? := fun k hk => Below.heap_alloc wF _ k hk
    exact tr_TaggedName o s _ stop w0 c c2 (ks stop) (ks2 stop) (he o s stop w0 (fun h => hno (.inr (.inl h))) (by omega) (fun k hk => by rw [hag k (.inr (.inl hk)), hold k (hS k hk).2])) (he2 o s stop w0 (fun h => hno (.inr (.inr h))) (by omega) (fun k hk => by rw [hag k (.inr (.inr hk)), hold k (hS2 k hk).2])) (block_cell hblk h0) (block_cell hblk h1) (lt_of_block hblk) (fun e => hno (.inl e.symm))
theorem mk_ArgumentPack {w wF : World} {cs : Array Value} {T0 : TypeId} {nb : Nat} (hw : Below w.heap.size w wF) (hnb : nb = wF.heap.size) {a : Option Addr} {m cap f : Nat} {kk : Nat → ByteArray → List ByteArray} {S : Nat → Prop} (hS : ∀ k, S k → w.heap.size ≤ k ∧ k < wF.heap.size) (he : ∀ o s stop w0, ¬ S o → wF.heap.size ≤ w0.heap.size → (∀ k, S k → w0.heap[k]? = wF.heap[k]?) → Row o s stop w0 a m ((List.range m).map fun i => kk (f + i) stop)) (h0 : cs[0]? = some (.slice a m cap)) :
    Made (Elem fun stop => ⟨#[65, 114, 103, 117, 109, 101, 110, 116, 80, 97, 99, 107]⟩ :: (if (⟨#[65, 114, 103, 117, 109, 101, 110, 116, 80, 97, 99, 107]⟩ : ByteArray) = stop then [] else ((List.range m).map fun i => kk (f + i) stop).flatten)) w (.returned (.iface 115 (.pointer (some ⟨nb, 0, none⟩)))) (wF.alloc (.cells cs T0)) := by
  subst hnb
  refine ⟨_, fun k => k = wF.heap.size ∨ S k, rfl, .inr ⟨_, _, rfl⟩, ?_, ?_, hw.alloc hw.size _⟩
  · have hsz := hw.size
    intro k hk
    simp only [size_alloc]
    rcases hk with rfl | hk
    · omega
    · have := hS k hk; omega
  · intro o s stop w0 hno hsz hag
    simp only [size_alloc] at hsz
    have hblk : w0.heap[wF.heap.size]? = some (.cells cs T0 (0, 0)) := by rw [hag _ (.inl rfl)]; exact heap_alloc_new wF _
    have hold : ∀ k, k < wF.heap.size → (wF.alloc (.cells cs T0)).heap[k]? = wF.heap[k]? := fun k hk => Below.heap_alloc wF _ k hk
    exact tr_ArgumentPack o s _ stop w0 a m cap _ (he o s stop w0 (fun h => hno (.inr h)) (by omega) (fun k hk => by rw [hag k (.inr hk), hold k (hS k hk).2])) (block_cell hblk h0) (lt_of_block hblk) (fun e => hno (.inl e.symm))
theorem mk_Closure {w wF : World} {cs : Array Value} {T0 : TypeId} {nb : Nat} (hw : Below w.heap.size w wF) (hnb : nb = wF.heap.size) {a : Option Addr} {m cap f : Nat} {kk : Nat → ByteArray → List ByteArray} {S : Nat → Prop} (hS : ∀ k, S k → w.heap.size ≤ k ∧ k < wF.heap.size) (he : ∀ o s stop w0, ¬ S o → wF.heap.size ≤ w0.heap.size → (∀ k, S k → w0.heap[k]? = wF.heap[k]?) → Row o s stop w0 a m ((List.range m).map fun i => kk (f + i) stop)) (h0 : cs[0]? = some (.slice none 0 0)) (h1 : cs[1]? = some .nilIface) (h2 : cs[2]? = some (.slice a m cap)) (h4 : cs[4]? = some .nilIface) :
    Made (Elem fun stop => ⟨#[67, 108, 111, 115, 117, 114, 101]⟩ :: (if (⟨#[67, 108, 111, 115, 117, 114, 101]⟩ : ByteArray) = stop then [] else ((List.range m).map fun i => kk (f + i) stop).flatten)) w (.returned (.iface 122 (.pointer (some ⟨nb, 0, none⟩)))) (wF.alloc (.cells cs T0)) := by
  subst hnb
  refine ⟨_, fun k => k = wF.heap.size ∨ S k, rfl, .inr ⟨_, _, rfl⟩, ?_, ?_, hw.alloc hw.size _⟩
  · have hsz := hw.size
    intro k hk
    simp only [size_alloc]
    rcases hk with rfl | hk
    · omega
    · have := hS k hk; omega
  · intro o s stop w0 hno hsz hag
    simp only [size_alloc] at hsz
    have hblk : w0.heap[wF.heap.size]? = some (.cells cs T0 (0, 0)) := by rw [hag _ (.inl rfl)]; exact heap_alloc_new wF _
    have hold : ∀ k, k < wF.heap.size → (wF.alloc (.cells cs T0)).heap[k]? = wF.heap[k]? := fun k hk => Below.heap_alloc wF _ k hk
    exact tr_Closure o s _ stop w0 a m cap _ (he o s stop w0 (fun h => hno (.inr h)) (by omega) (fun k hk => by rw [hag k (.inr hk), hold k (hS k hk).2])) (block_cell hblk h0) (block_cell hblk h1) (block_cell hblk h2) (block_cell hblk h4) (lt_of_block hblk) (fun e => hno (.inl e.symm))
theorem mk_Template {w wF : World} {cs : Array Value} {T0 : TypeId} {nb : Nat} (hw : Below w.heap.size w wF) (hnb : nb = wF.heap.size) {a : Option Addr} {m cap f : Nat} {kk : Nat → ByteArray → List ByteArray} {S : Nat → Prop} (hS : ∀ k, S k → w.heap.size ≤ k ∧ k < wF.heap.size) (he : ∀ o s stop w0, ¬ S o → wF.heap.size ≤ w0.heap.size → (∀ k, S k → w0.heap[k]? = wF.heap[k]?) → Row o s stop w0 a m ((List.range m).map fun i => kk (f + i) stop)) (h1 : cs[1]? = some (.slice a m cap)) {c : Value} {S2 : Nat → Prop} {ks : ByteArray → List ByteArray} (hS2 : ∀ k, S2 k → w.heap.size ≤ k ∧ k < wF.heap.size) (he2 : Elem ks S2 wF c) (h0 : cs[0]? = some c) :
    Made (Elem fun stop => ⟨#[84, 101, 109, 112, 108, 97, 116, 101]⟩ :: (if (⟨#[84, 101, 109, 112, 108, 97, 116, 101]⟩ : ByteArray) = stop then [] else ks stop ++ ((List.range m).map fun i => kk (f + i) stop).flatten)) w (.returned (.iface 59 (.pointer (some ⟨nb, 0, none⟩)))) (wF.alloc (.cells cs T0)) := by
  subst hnb
  refine ⟨_, fun k => k = wF.heap.size ∨ S k ∨ S2 k, rfl, .inr ⟨_, _, rfl⟩, ?_, ?_, hw.alloc hw.size _⟩
  · have hsz := hw.size
    intro k hk
    simp only [size_alloc]
    rcases hk with rfl | hk | hk
    · omega
    · have := hS k hk; omega
    · have := hS2 k hk; omega
  · intro o s stop w0 hno hsz hag
    simp only [size_alloc] at hsz
    have hblk : w0.heap[wF.heap.size]? = some (.cells cs T0 (0, 0)) := by rw [hag _ (.inl rfl)]; exact heap_alloc_new wF _
    have hold : ∀ k, k < wF.heap.size → (wF.alloc (.cells cs T0)).heap[k]? = wF.heap[k]? := fun k hk => Below.heap_alloc wF _ k hk
    exact tr_Template o s _ stop w0 a m cap _ (he o s stop w0 (fun h => hno (.inr (.inl h))) (by omega) (fun k hk => by rw [hag k (.inr (.inl hk)), hold k (hS k hk).2])) c (ks stop) (he2 o s stop w0 (fun h => hno (.inr (.inr h))) (by omega) (fun k hk => by rw [hag k (.inr (.inr hk)), hold k (hS2 k hk).2])) (block_cell hblk h0) (block_cell hblk h1) (lt_of_block hblk) (fun e => hno (.inl e.symm))
theorem mk_FunctionType {w wF : World} {cs : Array Value} {T0 : TypeId} {nb : Nat} (hw : Below w.heap.size w wF) (hnb : nb = wF.heap.size) {a : Option Addr} {m cap f : Nat} {kk : Nat → ByteArray → List ByteArray} {S : Nat → Prop} (hS : ∀ k, S k → w.heap.size ≤ k ∧ k < wF.heap.size) (he : ∀ o s stop w0, ¬ S o → wF.heap.size ≤ w0.heap.size → (∀ k, S k → w0.heap[k]? = wF.heap[k]?) → Row o s stop w0 a m ((List.range m).map fun i => kk (f + i) stop)) (h1 : cs[1]? = some (.slice a m cap)) {c : Value} {S2 : Nat → Prop} {ks : ByteArray → List ByteArray} (hS2 : ∀ k, S2 k → w.heap.size ≤ k ∧ k < wF.heap.size) (he2 : Elem ks S2 wF c) (h0 : cs[0]? = some c) :
    Made (Elem fun stop => ⟨#[70, 117, 110, 99, 116, 105, 111, 110, 84, 121, 112, 101]⟩ :: (if (⟨#[70, 117, 110, 99, 116, 105, 111, 110, 84, 121, 112, 101]⟩ : ByteArray) = stop then [] else ks stop ++ ((List.range m).map fun i => kk (f + i) stop).flatten)) w (.returned (.iface 67 (.pointer (some ⟨nb, 0, none⟩)))) (wF.alloc (.cells cs T0)) := by
  subst hnb
  refine ⟨_, fun k => k = wF.heap.size ∨ S k ∨ S2 k, rfl, .inr ⟨_, _, rfl⟩, ?_, ?_, hw.alloc hw.size _⟩
  · have hsz := hw.size
    intro k hk
    simp only [size_alloc]
    rcases hk with rfl | hk | hk
    · omega
    · have := hS k hk; omega
    · have := hS2 k hk; omega
  · intro o s stop w0 hno hsz hag
    simp only [size_alloc] at hsz
    have hblk : w0.heap[wF.heap.size]? = some (.cells cs T0 (0, 0)) := by rw [hag _ (.inl rfl)]; exact heap_alloc_new wF _
    have hold : ∀ k, k < wF.heap.size → (wF.alloc (.cells cs T0)).heap[k]? = wF.heap[k]? := fun k hk => Below.heap_alloc wF _ k hk
    exact tr_FunctionType o s _ stop w0 a m cap _ (he o s stop w0 (fun h => hno (.inr (.inl h))) (by omega) (fun k hk => by rw [hag k (.inr (.inl hk)), hold k (hS k hk).2])) c (ks stop) (he2 o s stop w0 (fun h => hno (.inr (.inr h))) (by omega) (fun k hk => by rw [hag k (.inr (.inr hk)), hold k (hS2 k hk).2])) (block_cell hblk h0) (block_cell hblk h1) (lt_of_block hblk) (fun e => hno (.inl e.symm))
theorem mk_FunctionTypeNil {w wF : World} {cs : Array Value} {T0 : TypeId} {nb : Nat} (hw : Below w.heap.size w wF) (hnb : nb = wF.heap.size) {a : Option Addr} {m cap f : Nat} {kk : Nat → ByteArray → List ByteArray} {S : Nat → Prop} (hS : ∀ k, S k → w.heap.size ≤ k ∧ k < wF.heap.size) (he : ∀ o s stop w0, ¬ S o → wF.heap.size ≤ w0.heap.size → (∀ k, S k → w0.heap[k]? = wF.heap[k]?) → Row o s stop w0 a m ((List.range m).map fun i => kk (f + i) stop)) (h1 : cs[1]? = some (.slice a m cap)) (h0 : cs[0]? = some .nilIface) :
    Made (Elem fun stop => ⟨#[70, 117, 110, 99, 116, 105, 111, 110, 84, 121, 112, 101]⟩ :: (if (⟨#[70, 117, 110, 99, 116, 105, 111, 110, 84, 121, 112, 101]⟩ : ByteArray) = stop then [] else ((List.range m).map fun i => kk (f + i) stop).flatten)) w (.returned (.iface 67 (.pointer (some ⟨nb, 0, none⟩)))) (wF.alloc (.cells cs T0)) := by
  subst hnb
  refine ⟨_, fun k => k = wF.heap.size ∨ S k, rfl, .inr ⟨_, _, rfl⟩, ?_, ?_, hw.alloc hw.size _⟩
  · have hsz := hw.size
    intro k hk
    simp only [size_alloc]
    rcases hk with rfl | hk
    · omega
    · have := hS k hk; omega
  · intro o s stop w0 hno hsz hag
    simp only [size_alloc] at hsz
    have hblk : w0.heap[wF.heap.size]? = some (.cells cs T0 (0, 0)) := by rw [hag _ (.inl rfl)]; exact heap_alloc_new wF _
    have hold : ∀ k, k < wF.heap.size → (wF.alloc (.cells cs T0)).heap[k]? = wF.heap[k]? := fun k hk => Below.heap_alloc wF _ k hk
    exact tr_FunctionTypeNil o s _ stop w0 a m cap _ (he o s stop w0 (fun h => hno (.inr h)) (by omega) (fun k hk => by rw [hag k (.inr hk), hold k (hS k hk).2])) (block_cell hblk h0) (block_cell hblk h1) (lt_of_block hblk) (fun e => hno (.inl e.symm))
end Go.Proofs.YtdlhhdhooacogaaGreatDoor

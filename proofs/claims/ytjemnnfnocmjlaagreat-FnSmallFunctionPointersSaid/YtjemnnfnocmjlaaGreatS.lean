/-
  Slices of texts that are only read: zzFits3; names: a list of Names of these texts.
-/
import Derived.Test.YtjemnnfnocmjlaaGreatL
namespace Go.Proofs.YtjemnnfnocmjlaaGreat
open Go.RowKit

theorem Tryz.infoAst : (Tryz.prog.info? 36).map (fun i => (i.zero, i.size, i.bytes)) = some (some .nilIface, 1, 16) := by kernel_rfl
theorem Tryz.infoStr : (Tryz.prog.info? 9).map (fun i => (i.zero, i.size, i.bytes)) = some (some (.string ⟨#[]⟩), 1, 16) := by kernel_rfl

/-- The slice '.slice a n c' reads as the texts ss. -/
structure Strs (w : World) (a : Option Addr) (n : Nat) (ss : List ByteArray) : Prop where
  len : ss.length = n
  cells : 0 < n → ∃ bl off, a = some ⟨bl, off, none⟩ ∧ bl < w.heap.size ∧ ∀ i, i < n → w.cell? ⟨bl, off + i, none⟩ = some (.string (ss.getD i ⟨#[]⟩))

theorem Strs.keep {w w' : World} {a : Option Addr} {n : Nat} {ss : List ByteArray} (h : Strs w a n ss) (hk : Below w.heap.size w w') : Strs w' a n ss :=
  ⟨h.len, fun hn => by
    obtain ⟨bl, off, e, hb, hc⟩ := h.cells hn
    exact ⟨bl, off, e, Nat.lt_of_lt_of_le hb hk.size, fun i hi => by rw [hk.cell (p := ⟨bl, off + i, none⟩) hb]; exact hc i hi⟩⟩

/-- What is known of a list of texts that came in. -/
structure StrArg (w : World) (a : Option Addr) (n cap : Nat) (ss : List ByteArray) : Prop where
  strs : Strs w a n ss
  nil : a = none → cap = 0
  len : n ≤ maxLen
  sizes : ∀ s ∈ ss, s.size ≤ maxLen

theorem StrArg.atNil (w : World) : StrArg w none 0 0 [] := ⟨⟨rfl, fun h => by omega⟩, fun _ => rfl, by unfold maxLen; omega, fun s hs => by simp at hs⟩

theorem StrArg.atRow {w : World} {x : Addr} {len cap : Nat} {ss : List ByteArray} (hl : len ≤ cap) (hm : cap ≤ maxLen) (hz : len ≤ ss.length)
    (hc : ∀ i, i < ss.length → w.cell? (x.add i) = some (.string (ss.getD i ByteArray.empty))) (hs : ∀ s ∈ ss, s.size ≤ maxLen) : StrArg w (some x) len cap (ss.take len) := by
  refine ⟨⟨by simp; omega, fun hn => ?_⟩, fun e => by simp at e, by omega, fun s h => hs s (List.mem_of_mem_take h)⟩
  obtain ⟨b, off, spot⟩ := x
  have hspot : spot = none := by simpa [Addr.add] using World.cell?_spot (hc 0 (by omega))
  subst hspot
  refine ⟨b, off, rfl, ?_, fun i hi => ?_⟩
  · have := hc 0 (by omega)
    exact World.block_lt_of_cell? w _ (by simpa [Addr.add] using this)
  · have := hc i (by omega)
    rw [Addr.add_lit] at this
    rw [this]
    have e : i < ss.length := by omega
    simp [List.getD, hi, e]

/-- Go's '==' on texts, as the walk writes it. -/
theorem str_eq (a b : ByteArray) : (a.toList == b.toList) = decide (a = b) := by
  rw [ByteArray.toList_eq, ByteArray.toList_eq, Bool.eq_iff_iff, beq_iff_eq, decide_eq_true_iff]
  exact ⟨fun e => by cases a; cases b; simpa using e, fun e => by rw [e]⟩
theorem str_ne {a b : ByteArray} (h : ¬ a = b) : (a.toList == b.toList) = false := by rw [str_eq]; simpa using h
theorem str_same {a b : ByteArray} (h : a = b) : (a.toList == b.toList) = true := by rw [str_eq]; simpa using h

/-- None of the texts is longer than the bound. -/
def fitsB (ss : List ByteArray) : Bool := ss.all fun s => decide (s.size ≤ 2147483647)

theorem fits_step (ss : List ByteArray) (k : Nat) (hk : k < ss.length) (h : fitsB (ss.take k) = true) (hs : (ss.getD k ⟨#[]⟩).size ≤ 2147483647) : fitsB (ss.take (k + 1)) = true := by
  unfold fitsB at h ⊢
  rw [List.take_succ_eq_append_getElem hk, List.all_append, h]
  simpa [List.getD, hk] using hs

theorem fits_no (ss : List ByteArray) (k : Nat) (hk : k < ss.length) (hs : ¬ (ss.getD k ⟨#[]⟩).size ≤ 2147483647) : fitsB ss = false := by
  unfold fitsB
  refine Bool.eq_false_iff.2 fun h => hs ?_
  have := List.all_eq_true.1 h (ss.getD k ⟨#[]⟩) (by simp [List.getD, hk])
  simpa using this

set_option maxHeartbeats 1000000 in
theorem fits_any (a : Option Addr) (n cap : Nat) (ss : List ByteArray) (w : World) (h : Strs w a n ss) (hn : n ≤ 2147483647) (hm : ∀ s ∈ ss, s.size ≤ maxLen) :
    Calls Tryz.prog 5 #[.slice a n cap] w fun e w' => e = .returned (.bool (fitsB ss)) ∧ w = w' := by
  have HS := Lib.hid h
  have HM := Lib.hid hm
  clear h hm
  go_enter Tryz.func5, Tryz.ntmps5
  go_wp2_with fail
  go_loop [10] (fun i => ∃ k : Nat, k ≤ n ∧ i = .int .i64 k ∧ Hid (fitsB (ss.take k) = true)) (fun i => n - (intOf i).toNat)
  case atStart => exact ⟨0, Nat.zero_le _, rfl, rfl⟩
  case round =>
    obtain ⟨k, hk, rfl, hf⟩ := hrel
    by_cases hlt : k < n
    · obtain ⟨bl, off, rfl, _, hc⟩ := HS.out.cells (by omega)
      have hc1 := hc k hlt
      have hkl : k < ss.length := by rw [HS.out.len]; exact hlt
      have hmx := HM.out (ss.getD k ⟨#[]⟩) (by simp [List.getD, hkl])
      unfold maxLen at hmx
      have h1 := fits_step ss k hkl hf.out
      have h2 := fits_no ss k hkl
      have H1 := Lib.hid h1
      have H2 := Lib.hid h2
      clear h1 h2 hc hf hkl
      generalize ss.getD k ⟨#[]⟩ = s at *
      by_cases hs : s.size ≤ 2147483647
      · go_wp2_with fail
        go_round
        case rel => exact ⟨k + 1, by omega, by go_num, H1.out hs⟩
        case measure => simp [intOf]; omega
      · go_wp2_with fail
        go_ret
        exact ⟨by rw [H2.out hs]; rfl, rfl⟩
    · have e : ss.take k = ss := List.take_of_length_le (by rw [HS.out.len]; omega)
      have HE := Lib.hid e
      clear e
      go_wp2_with fail
      go_ret
      exact ⟨by rw [← HE.out, hf.out]; rfl, rfl⟩

/-- The interface value v holds a Name whose text is s. -/
def IsName (w : World) (B : Nat) (s : ByteArray) (v : Value) : Prop :=
  ∃ b, v = .iface 63 (.pointer (some ⟨b, 0, none⟩)) ∧ B ≤ b ∧ w.heap[b]? = some (.cells #[.string s] 65 (0, 0))

set_option maxHeartbeats 400000 in
theorem name_any (s : ByteArray) (w : World) :
    Calls Tryz.prog 14 #[.string s] w fun e w' => e = .returned (.iface 63 (.pointer (some ⟨w.heap.size, 0, none⟩))) ∧ w.alloc (.cells #[.string s] 65) = w' := by
  go_enter Tryz.func14, Tryz.ntmps14
  go_wp2
  go_ret
  exact ⟨rfl, rfl⟩

/-- The values vs are Names of the texts ss. -/
def Names (w : World) (B : Nat) (ss : List ByteArray) (vs : List Value) : Prop :=
  vs.length = ss.length ∧ ∀ i, i < ss.length → IsName w B (ss.getD i ⟨#[]⟩) (vs.getD i undef)

theorem Names.nil (w : World) (B : Nat) : Names w B [] [] := ⟨rfl, fun i hi => by simp at hi⟩

theorem Names.keep {w w' : World} {B : Nat} {ss : List ByteArray} {vs : List Value} (h : Names w B ss vs)
    (hk : ∀ b s, B ≤ b → w.heap[b]? = some (.cells #[.string s] 65 (0, 0)) → w'.heap[b]? = some (.cells #[.string s] 65 (0, 0))) : Names w' B ss vs :=
  ⟨h.1, fun i hi => by obtain ⟨b, e, hb, hc⟩ := h.2 i hi; exact ⟨b, e, hb, hk b _ hb hc⟩⟩

theorem Names.snoc {w : World} {B : Nat} {ss : List ByteArray} {vs : List Value} {s : ByteArray} {v : Value} (h : Names w B ss vs) (hv : IsName w B s v) : Names w B (ss ++ [s]) (vs ++ [v]) := by
  refine ⟨by simp [h.1], fun i hi => ?_⟩
  simp at hi
  by_cases hl : i < ss.length
  · have := h.2 i hl
    simpa [List.getD, List.getElem?_append, hl, h.1] using this
  · obtain rfl : i = ss.length := by omega
    simpa [List.getD, List.getElem?_append, h.1] using hv

/-- A block that holds a Name stays where the one block that may be written holds an array of elements. -/
theorem name_kept {w w1 : World} {v : Value} {B n : Nat} {vs : List Value} {b : Nat} {s : ByteArray} (hown : w.ownsRow B 36 1 v n vs) (hg : w.grownBy w1 v.ownBlock)
    (h : w.heap[b]? = some (.cells #[.string s] 65 (0, 0))) : w1.heap[b]? = some (.cells #[.string s] 65 (0, 0)) := by
  rw [hg.block b (lt_of_block h) ?_]
  · exact h
  · intro e
    rcases hown.2 with ⟨rfl, _⟩ | ⟨g, cap, cur, rfl, _, hh, _⟩
    · simp [Value.ownBlock] at e
    · simp [Value.ownBlock] at e
      subst e
      rw [hh] at h
      simp at h

/-- What 'names' hands back: a new slice of Names of the texts; nothing that was there has turned. -/
def NamesMade (ss : List ByteArray) (w : World) (e : Ending) (w' : World) : Prop :=
  ∃ v vs, e = .returned v ∧ w'.ownsRow w.heap.size 36 1 v ss.length vs ∧ Names w' w.heap.size ss vs ∧ Below w.heap.size w w'

set_option maxHeartbeats 1000000 in
theorem names_any (a : Option Addr) (n cap : Nat) (ss : List ByteArray) (w : World) (h : Strs w a n ss) (hn : n ≤ 1000) :
    Calls Tryz.prog 20 #[.slice a n cap] w (NamesMade ss w) := by
  obtain ⟨i0, hi, hz0, hz1, hz2⟩ := info_parts Tryz.infoAst
  have HS := Lib.hid h
  clear h
  go_enter Tryz.func20, Tryz.ntmps20
  go_wp2_with fail
  go_loopw [3, 8] (fun v i wr => ∃ k : Nat, k ≤ n ∧ i = .int .i64 k ∧ ∃ vs, wr.ownsRow w.heap.size 36 1 v k vs ∧ Names wr w.heap.size (ss.take k) vs ∧ Below w.heap.size w wr) (fun _ i _ => n - (intOf i).toNat)
  case atStart => exact ⟨0, Nat.zero_le _, rfl, [], World.ownsRow_nil _ _ _ _, by simpa using Names.nil _ _, Below.refl _ _⟩
  case round =>
    rename_i v _
    obtain ⟨k, hk, rfl, vs, hown, hnm, hbel⟩ := hrel
    by_cases hlt : k < n
    · obtain ⟨bl, off, rfl, hbl, hc⟩ := HS.out.cells (by omega)
      have hc1 : wr.cell? ⟨bl, off + k, none⟩ = some (.string (ss.getD k ⟨#[]⟩)) := by rw [hbel.cell (p := ⟨bl, off + k, none⟩) hbl]; exact hc k hlt
      have ht : ss.take (k + 1) = ss.take k ++ [ss.getD k ⟨#[]⟩] := by
        have hl : k < ss.length := by rw [HS.out.len]; exact hlt
        rw [List.take_succ_eq_append_getElem hl]
        simp [List.getD, hl]
      have HT := Lib.hid ht
      clear hc ht
      generalize ss.getD k ⟨#[]⟩ = s at *
      go_wp2_with fail
      refine (name_any s wr).mono ?_
      rintro e w1 ⟨rfl, rfl⟩
      have hsz := hbel.size
      go_wp2_with (at_builtin; refine wpList_append_own _ rfl _ _ 42 rfl w.heap.size 36 i0 .nilIface 1 16 Tryz.underlying42 hi hz0 hz1 hz2 rfl (by decide) _ _ _ rfl ((hown.alloc _).alloc _) ⟨wr.heap.size + 1, 0, none⟩ 1 1 [.iface 63 (.pointer (some ⟨wr.heap.size, 0, none⟩))] rfl rfl ?c1 (by simp [Value.oneCell']) ?c3 (by omega) (by simp; omega) ?_)
      case c1 => simpa using cell_one_new (wr.alloc (Obj.cells #[.string s] 65)) _ _
      case c3 => unfold maxLen; omega
      intro v1 w1 hown1 hg1 _
      have hnew : ∀ (b : Nat) (s' : ByteArray), wr.heap[b]? = some (.cells #[.string s'] 65 (0, 0)) → w1.heap[b]? = some (.cells #[.string s'] 65 (0, 0)) := fun b s' hb =>
        name_kept ((hown.alloc _).alloc _) hg1 (by have := lt_of_block hb; rw [Below.heap_alloc _ _ _ (by simp; omega), Below.heap_alloc _ _ _ this]; exact hb)
      have hthis : w1.heap[wr.heap.size]? = some (.cells #[.string s] 65 (0, 0)) := name_kept ((hown.alloc _).alloc _) hg1 (by rw [Below.heap_alloc _ _ _ (by simp), heap_alloc_new])
      have hnm1 := (hnm.keep (w' := w1) (fun b s' _ hb => hnew b s' hb)).snoc (s := s) (v := .iface 63 (.pointer (some ⟨wr.heap.size, 0, none⟩))) ⟨_, rfl, hsz, hthis⟩
      have hb1 : Below w.heap.size w w1 := ((hbel.alloc hsz _).alloc (by simp; omega) _).grown hg1 (by simp; omega) (fun j hj => (hown.lt j hj).1)
      clear hnew hthis hnm hbel hg1 hown hc1
      go_wp2_with fail
      go_roundw
      case rel => exact ⟨k + 1, by omega, by go_num, _, hown1, by rw [HT.out]; exact hnm1, hb1⟩
      case measure => simp [intOf]; omega
    · have e : ss.take k = ss := List.take_of_length_le (by rw [HS.out.len]; omega)
      rw [e] at hnm
      have ek : k = ss.length := by rw [HS.out.len]; omega
      have EK := Lib.hid ek
      clear e ek
      go_wp2_with fail
      go_ret
      exact ⟨_, vs, rfl, by rw [← EK.out]; exact hown, hnm, hbel⟩

end Go.Proofs.YtjemnnfnocmjlaaGreat

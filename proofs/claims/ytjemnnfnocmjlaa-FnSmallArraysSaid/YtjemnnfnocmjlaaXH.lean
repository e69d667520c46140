/-
  FnSmallScopesJoin: the element that is made, and the law.
-/
import Derived.Test.YtjemnnfnocmjlaaXG
namespace Go.Proofs.Ytjemnnfnocmjlaa
open Go.RowKit

set_option maxHeartbeats 400000 in
theorem fits_big (a : Option Addr) (n cap : Nat) (w : World) (hn : 2147483647 < n) (hm : n ≤ maxLen) :
    Calls Try.prog 16 #[.slice a n cap] w fun e w' => e = .returned (.bool false) ∧ w = w' := by
  unfold maxLen at hm
  go_enter Try.func16, Try.ntmps16
  go_wp2_with fail
  go_ret
  exact ⟨rfl, rfl⟩

/-- zzFits3, whatever the list. -/
theorem fits_is (a : Option Addr) (n cap : Nat) (ss : List ByteArray) (w : World) (h : Strs w a n ss) (hm : n ≤ maxLen) (hs : ∀ s ∈ ss, s.size ≤ maxLen) (b : Bool) (hb : b = (decide (n ≤ 2147483647) && fitsB ss)) :
    Calls Try.prog 16 #[.slice a n cap] w fun e w' => e = .returned (.bool b) ∧ w = w' := by
  by_cases hn : n ≤ 2147483647
  · rw [hb, decide_eq_true hn, Bool.true_and]
    exact fits_any a n cap ss w h hn hs
  · rw [hb, decide_eq_false hn, Bool.false_and]
    exact fits_big a n cap w (by omega) hm

theorem fitsB_all {ss : List ByteArray} (h : fitsB ss = true) : ∀ s ∈ ss, s.size ≤ 2147483647 := by
  intro s hs
  have := List.all_eq_true.1 h s hs
  simpa using this

theorem Strs.ofOwn {w : World} {B n : Nat} {v : Value} {ss : List ByteArray} (h : w.ownsRow B 9 1 v n (ss.map Value.string)) : ∃ a cap, v = .slice a n cap ∧ Strs w a n ss ∧ (a = none → cap = 0) := by
  have hl : ss.length = n := by simpa using h.1
  rcases h.2 with ⟨rfl, rfl⟩ | ⟨g, cap, cur, rfl, hb, hg, r⟩
  · exact ⟨none, 0, rfl, ⟨hl, fun h => by omega⟩, fun _ => rfl⟩
  · refine ⟨_, _, rfl, ⟨hl, fun hn => ⟨g, 0, rfl, lt_of_block hg, fun i hi => ?_⟩⟩, fun e => by simp at e⟩
    rw [Nat.zero_add, h.cellAt i (by omega)]
    simp [hl, hi]

/-- A list of texts as what an append appends. -/
theorem Strs.src {w : World} {a : Option Addr} {n cap : Nat} {ss : List ByteArray} (h : Strs w a n ss) (hn : a = none → cap = 0) : Src Try.prog 1 28 (.slice a n cap) n (ss.map Value.string) w := by
  cases a with
  | none =>
    have h0 : n = 0 := by
      rcases Nat.eq_zero_or_pos n with h0 | h0
      · exact h0
      · obtain ⟨_, _, e, _⟩ := h.cells h0
        simp at e
    subst h0
    have : ss = [] := List.eq_nil_of_length_eq_zero h.len
    subst this
    exact Src.ofNil w Try.underlying28 cap
  | some ad =>
    refine Src.ofSlice w Try.underlying28 ad n cap _ (by simp [h.len]) (fun j u hu => ?_) (fun u hu => by obtain ⟨_, _, rfl⟩ := List.mem_map.1 hu; rfl)
    have hj : j < n := by have := (List.getElem?_eq_some_iff.1 hu).1; simpa [h.len] using this
    obtain ⟨bl, off, e, _, hc⟩ := h.cells (by omega)
    simp at e
    subst e
    rw [Addr.add_lit, hc j hj]
    have : j < ss.length := by rw [h.len]; exact hj
    simpa [List.getD, this] using hu

/-- What 'scopes' hands back. -/
def ScopesMade (first : ByteArray) (ss : List ByteArray) (w : World) (e : Ending) (w' : World) : Prop :=
  ∃ T f b, e = .returned (.iface T (.pointer (some ⟨b, 0, none⟩))) ∧ Scs w'.heap.size w' first ss.reverse T f b ∧ Below w.heap.size w w'

theorem rev_take (ss : List ByteArray) (k : Nat) (hk : k < ss.length) : (ss.take (k + 1)).reverse = ss.getD k ⟨#[]⟩ :: (ss.take k).reverse := by
  rw [List.take_succ_eq_append_getElem hk, List.reverse_append]
  simp [List.getD, hk]

set_option maxHeartbeats 1000000 in
theorem scopes_any (first : ByteArray) (a : Option Addr) (n cap : Nat) (ss : List ByteArray) (w : World) (h : Strs w a n ss) (hn : n ≤ 2000) :
    Calls Try.prog 36 #[.string first, .slice a n cap] w (ScopesMade first ss w) := by
  have HS := Lib.hid h
  clear h
  go_enter Try.func36, Try.ntmps36
  go_wp2_with fail
  refine (name_any first w).mono ?_
  rintro e w1 ⟨rfl, rfl⟩
  go_wp2_with fail
  go_loopw [5, 12] (fun v i wr => ∃ k : Nat, k ≤ n ∧ i = .int .i64 k ∧ ∃ T f b, v = .iface T (.pointer (some ⟨b, 0, none⟩)) ∧ Scs wr.heap.size wr first (ss.take k).reverse T f b ∧ Below w.heap.size w wr) (fun _ i _ => n - (intOf i).toNat)
  case atStart =>
    exact ⟨0, Nat.zero_le _, rfl, _, _, w.heap.size, rfl, ⟨⟨rfl, rfl⟩, by simp, heap_alloc_new _ _⟩, (Below.refl _ _).alloc (Nat.le_refl _) _⟩
  case round =>
    obtain ⟨k, hk, rfl, T, f, b, rfl, hp, hbel⟩ := hrel
    by_cases hlt : k < n
    · obtain ⟨bl, off, rfl, hbl, hc⟩ := HS.out.cells (by omega)
      have hc1 : wr.cell? ⟨bl, off + k, none⟩ = some (.string (ss.getD k ⟨#[]⟩)) := by rw [hbel.cell (p := ⟨bl, off + k, none⟩) hbl]; exact hc k hlt
      have HT := Lib.hid (rev_take ss k (by rw [HS.out.len]; exact hlt))
      clear hc
      generalize ss.getD k ⟨#[]⟩ = x at *
      have hnew : Scs ((wr.alloc (.cells #[.string x] 99)).alloc (.cells #[.iface T (.pointer (some ⟨b, 0, none⟩)), .iface 97 (.pointer (some ⟨wr.heap.size, 0, none⟩)), .bool false] 104)).heap.size
          ((wr.alloc (.cells #[.string x] 99)).alloc (.cells #[.iface T (.pointer (some ⟨b, 0, none⟩)), .iface 97 (.pointer (some ⟨wr.heap.size, 0, none⟩)), .bool false] 104)) first (x :: (ss.take k).reverse) 102 132 (wr.heap.size + 1) := by
        obtain ⟨h1, h2, h3⟩ := El.two wr #[.string x] 99 #[.iface T (.pointer (some ⟨b, 0, none⟩)), .iface 97 (.pointer (some ⟨wr.heap.size, 0, none⟩)), .bool false] 104
        exact ⟨⟨rfl, rfl⟩, T, f, b, wr.heap.size, by have := hp.lt; omega, by omega, h2, h1, hp.grow (by simp; omega) h3⟩
      have hbn : Below w.heap.size w ((wr.alloc (.cells #[.string x] 99)).alloc (.cells #[.iface T (.pointer (some ⟨b, 0, none⟩)), .iface 97 (.pointer (some ⟨wr.heap.size, 0, none⟩)), .bool false] 104)) := (hbel.alloc hbel.size _).alloc (by have := hbel.size; simp; omega) _
      have HN := Lib.hid hnew
      have HB := Lib.hid hbn
      clear hp hnew hbn hbel
      go_wp2_with fail
      refine (name_any x wr).mono ?_
      rintro e w2 ⟨rfl, rfl⟩
      go_wp2_with fail
      go_roundw
      case rel => exact ⟨k + 1, by omega, by go_num, _, _, _, rfl, by rw [HT.out]; exact HN.out, HB.out⟩
      case measure => simp [intOf]; omega
    · have e : ss.take k = ss := List.take_of_length_le (by rw [HS.out.len]; omega)
      rw [e] at hp
      clear e
      go_wp2_with fail
      go_ret
      exact ⟨T, f, b, rfl, hp, hbel⟩

set_option maxHeartbeats 1000000 in
theorem printScopes_any (first : ByteArray) (a : Option Addr) (n cap : Nat) (ss : List ByteArray) (w : World) (h : Strs w a n ss) (hn : n ≤ 2000) (hl : (scText first ss.reverse).size ≤ 140737488355328) :
    Calls Try.prog 19 #[.string first, .slice a n cap] w fun e w' => e = .returned (.string (scText first ss.reverse)) ∧ Below w.heap.size w w' := by
  have HS := Lib.hid h
  clear h
  go_enter Try.func19, Try.ntmps19
  go_wp2_with fail
  refine (scopes_any first a n cap ss w HS.out hn).mono ?_
  rintro e w1 ⟨T, f, b, rfl, hp, hb⟩
  go_wp2_with fail
  refine (ast_any T b f w1 (scText first ss.reverse).data.toList hp.nodeT (fun w2 h2 hb2 => whole_of (by rw [scSt_out]; rfl) (root_scs _ first ss.reverse T f b w2 PS.start (hp.grow (Nat.le_refl _) hb2) (PX.start h2) (by rw [List.length_reverse, HS.out.len]; omega) (by simpa [PS.start] using hl)))).mono ?_
  rintro e w2 ⟨rfl, hb2⟩
  rw [bytes_mk]
  have hfin := hb.trans (hb2.mono hb.size)
  clear hp hb hb2
  go_wp2_with fail
  go_ret
  exact ⟨rfl, hfin⟩

theorem scText_bound (first : ByteArray) (l : List ByteArray) (hf : first.size ≤ 2147483647) (h : ∀ s ∈ l, s.size ≤ 2147483647) : (scText first l).size ≤ 2147483647 + l.length * 2147483649 := by
  induction l with
  | nil => simpa [scText] using hf
  | cons x l ih =>
    have := ih (fun s hs => h s (List.mem_cons_of_mem _ hs))
    have hx := h x (List.mem_cons_self ..)
    rw [scText, ByteArray.size_append, ByteArray.size_append, show colonsW.size = 2 from rfl, List.length_cons, Nat.add_mul]
    omega

section
variable (first : ByteArray) (a : Option Addr) (n cap : Nat) (ss : List ByteArray) (s : ByteArray) (w : World)

set_option maxHeartbeats 1000000 in
theorem lawScopes_first (hs : first.size ≤ maxLen) (h1 : 2147483647 < first.size) : Calls Try.prog 6 #[.string first, .slice a n cap, .string s] w (Yes w) := by
  unfold maxLen at hs
  go_enter Try.func6, Try.ntmps6
  go_wp2_with fail
  go_ret
  exact ⟨rfl, Below.refl _ _⟩

set_option maxHeartbeats 1000000 in
theorem lawScopes_fits (h1 : first.size ≤ 2147483647) (hf : Calls Try.prog 16 #[.slice a n cap] w fun e w' => e = .returned (.bool false) ∧ w = w') : Calls Try.prog 6 #[.string first, .slice a n cap, .string s] w (Yes w) := by
  have HF := Lib.hid hf
  clear hf
  go_enter Try.func6, Try.ntmps6
  go_wp2_with fail
  refine HF.out.mono ?_
  rintro e w1 ⟨rfl, rfl⟩
  go_wp2_with fail
  go_ret
  exact ⟨rfl, Below.refl _ _⟩

set_option maxHeartbeats 1000000 in
theorem lawScopes_s (h1 : first.size ≤ 2147483647) (h2 : 2147483647 < s.size) (h3 : s.size ≤ maxLen) (hf : Calls Try.prog 16 #[.slice a n cap] w fun e w' => e = .returned (.bool true) ∧ w = w') : Calls Try.prog 6 #[.string first, .slice a n cap, .string s] w (Yes w) := by
  unfold maxLen at h3
  have HF := Lib.hid hf
  clear hf
  go_enter Try.func6, Try.ntmps6
  go_wp2_with fail
  refine HF.out.mono ?_
  rintro e w1 ⟨rfl, rfl⟩
  go_wp2_with fail
  go_ret
  exact ⟨rfl, Below.refl _ _⟩

set_option maxHeartbeats 1000000 in
theorem lawScopes_long (h1 : first.size ≤ 2147483647) (h2 : s.size ≤ 2147483647) (h5 : 1000 < n) (h6 : n ≤ maxLen) (hf : Calls Try.prog 16 #[.slice a n cap] w fun e w' => e = .returned (.bool true) ∧ w = w') : Calls Try.prog 6 #[.string first, .slice a n cap, .string s] w (Yes w) := by
  unfold maxLen at h6
  have HF := Lib.hid hf
  clear hf
  go_enter Try.func6, Try.ntmps6
  go_wp2_with fail
  refine HF.out.mono ?_
  rintro e w1 ⟨rfl, rfl⟩
  go_wp2_with fail
  go_ret
  exact ⟨rfl, Below.refl _ _⟩

set_option maxRecDepth 100000 in
set_option maxHeartbeats 2000000 in
theorem lawScopes_main (h1 : first.size ≤ 2147483647) (h2 : s.size ≤ 2147483647) (h5 : n ≤ 1000) (hst : Strs w a n ss) (hcap : a = none → cap = 0) (hall : ∀ x ∈ ss, x.size ≤ 2147483647) (hf : Calls Try.prog 16 #[.slice a n cap] w fun e w' => e = .returned (.bool true) ∧ w = w') : Calls Try.prog 6 #[.string first, .slice a n cap, .string s] w (Yes w) := by
  have HF := Lib.hid hf
  have HS := Lib.hid hst
  have HC := Lib.hid hcap
  have hz : (scText first ss.reverse).size ≤ 2147483647 + 1000 * 2147483649 := by
    have := scText_bound first ss.reverse h1 (fun x hx => hall x (List.mem_reverse.1 hx))
    rw [List.length_reverse, hst.len] at this
    exact Nat.le_trans this (Nat.add_le_add_left (Nat.mul_le_mul_right _ h5) _)
  have hrev : (ss ++ [s]).reverse = s :: ss.reverse := by rw [List.reverse_append]; rfl
  have hz2e : (scText first (s :: ss.reverse)).size = (scText first ss.reverse).size + 2 + s.size := by
    have hc : colonsW.size = 2 := by decide
    rw [scText, ByteArray.size_append, ByteArray.size_append, hc]
  have hz2 : (scText first (s :: ss.reverse)).size ≤ 2147483647 + 1001 * 2147483649 := by
    rw [hz2e]; omega
  have hq : ((scText first (s :: ss.reverse)).toList == (scText first ss.reverse ++ ByteArray.mk #[58, 58] ++ s).toList) = true := str_same rfl
  obtain ⟨i0, hi, hz0, hz1, hz2'⟩ := info_parts Try.infoStr
  clear hf hst hcap hall
  go_enter Try.func6, Try.ntmps6
  go_wp2_with fail
  refine HF.out.mono ?_
  rintro e w1 ⟨rfl, rfl⟩
  go_wp2_with (at_builtin; refine wpList_append_src _ rfl _ _ 28 28 rfl w.heap.size 9 i0 (.string ⟨#[]⟩) 1 16 Try.underlying28 hi hz0 hz1 hz2' rfl _ _ 0 [] rfl rfl (World.ownsRow_lit w #[] 0 (Nat.le_refl _) (by decide) rfl) n (ss.map Value.string) ((HS.out.keep ((Below.refl _ _).alloc (Nat.le_refl _) _)).src HC.out) ?c3 (by omega) (by simp) ?_)
  case c3 => unfold maxLen; omega
  intro v1 w1 hown1 hg1
  have hb1 : Below w.heap.size w w1 := ((Below.refl _ _).alloc (Nat.le_refl _) _).grown hg1 (by simp) (fun k hk => by simp [Value.ownBlock] at hk; omega)
  clear hg1
  have hsz1 := hb1.size
  go_wp2_with (at_builtin; refine wpList_append_own _ rfl _ _ 28 rfl w.heap.size 9 i0 (.string ⟨#[]⟩) 1 16 Try.underlying28 hi hz0 hz1 hz2' rfl (by decide) _ _ _ rfl (hown1.alloc _) ⟨w1.heap.size, 0, none⟩ 1 1 [.string s] rfl rfl (cell_one_new _ _ _) (by simp [Value.oneCell']) ?c4 (by omega) (by simp; omega) ?_)
  case c4 => unfold maxLen; omega
  intro v2 w2 hown2 hg2 _
  have hb2 := (hb1.alloc hsz1 _).grown hg2 (by simp; omega) (fun j hj => (hown1.lt j hj).1)
  obtain ⟨a2, cap2, rfl, hs2, _⟩ := Strs.ofOwn (n := n + 1) (ss := ss ++ [s]) (by simpa using hown2)
  have HS2 := Lib.hid hs2
  clear hown1 hown2 hg2 hs2 hb1
  go_wp2_with fail
  refine (printScopes_any first a2 (n + 1) cap2 (ss ++ [s]) w2 HS2.out (by omega) (by rw [hrev]; omega)).mono ?_
  rw [hrev]
  rintro e w3 ⟨rfl, hb3⟩
  have hb3' := hb2.trans (hb3.mono hb2.size)
  clear hb3
  go_wp2_with fail
  refine (printScopes_any first a n cap ss w3 (HS.out.keep hb3') (by omega) (by omega)).mono ?_
  rintro e w4 ⟨rfl, hb4⟩
  have hb4' := hb3'.trans (hb4.mono hb3'.size)
  clear hb4
  generalize scText first (s :: ss.reverse) = X at *
  generalize scText first ss.reverse = Y at *
  go_wp2_with fail
  go_ret
  exact ⟨rfl, hb4'⟩
end

theorem lawScopes_any (first : ByteArray) (hf : first.size ≤ maxLen) (a : Option Addr) (n cap : Nat) (ss : List ByteArray) {w0 : World} (h : StrArg w0 a n cap ss) (s : ByteArray) (hs : s.size ≤ maxLen) (w : World) (hw : w = w0 := by rfl) :
    Calls Try.prog 6 #[.string first, .slice a n cap, .string s] w (Yes w) := by
  subst hw
  by_cases h1 : 2147483647 < first.size
  · exact lawScopes_first first a n cap s w hf h1
  have hfit := fits_is a n cap ss w h.strs h.len h.sizes
  by_cases h2 : (decide (n ≤ 2147483647) && fitsB ss) = false
  · exact lawScopes_fits first a n cap s w (by omega) (hfit false h2.symm)
  have h2' : (decide (n ≤ 2147483647) && fitsB ss) = true := by simpa using h2
  have hf1 := hfit true h2'.symm
  have hall := fitsB_all (Bool.and_eq_true _ _ ▸ h2').2
  by_cases h4 : 2147483647 < s.size
  · exact lawScopes_s first a n cap s w (by omega) h4 hs hf1
  by_cases h5 : 1000 < n
  · exact lawScopes_long first a n cap s w (by omega) (by omega) h5 h.len hf1
  exact lawScopes_main first a n cap ss s w (by omega) (by omega) (by omega) h.strs h.nil hall hf1

end Go.Proofs.Ytjemnnfnocmjlaa

/-
  FnSmallArrays: the element that is made, and the law.
-/
import Derived.Test.YtjemnnfnocmjlaaXI
import Derived.Test.YtjemnnfnocmjlaaXH
namespace Go.Proofs.Ytjemnnfnocmjlaa
open Go.RowKit

/-- The lengths as the law writes them, the last one first. -/
def lenText : List ByteArray → ByteArray
  | [] => ⟨#[]⟩
  | x :: l => lenText l ++ ((ByteArray.mk #[91] ++ x) ++ ByteArray.mk #[93])

theorem lenText_size (l : List ByteArray) (h : ∀ x ∈ l, x.size ≤ 2147483647) : (lenText l).size ≤ l.length * 2147483649 := by
  induction l with
  | nil => exact Nat.zero_le _
  | cons x l ih =>
    have := ih (fun s hs => h s (List.mem_cons_of_mem _ hs))
    have hx := h x (List.mem_cons_self ..)
    rw [lenText, ByteArray.size_append, ByteArray.size_append, ByteArray.size_append, show (ByteArray.mk #[91]).size = 1 from rfl, show (ByteArray.mk #[93]).size = 1 from rfl, List.length_cons, Nat.add_mul]
    omega

theorem dimLen_size (l : List ByteArray) (h : ∀ x ∈ l, x.size ≤ 2147483647) : dimLen l ≤ l.length * 2147483650 := by
  induction l with
  | nil => exact Nat.zero_le _
  | cons x l ih =>
    have := ih (fun s hs => h s (List.mem_cons_of_mem _ hs))
    have hx := h x (List.mem_cons_self ..)
    rw [dimLen, List.length_cons, Nat.add_mul]
    omega

theorem dimSt_out (σ : PS) (x : ByteArray) (l : List ByteArray) : (dimSt σ (x :: l)).out = σ.out ++ ([32] ++ (lenText (x :: l)).data.toList) := by
  induction l generalizing x with
  | nil =>
    simp only [dimSt, dimPre, PS.byte_out, PS.text_out, lenText, bytes_append, spaceW, List.append_assoc]
    rfl
  | cons y l ih =>
    have e := ih y
    rw [dimSt, PS.byte_out, PS.text_out, PS.byte_out, PS.text_out, e, show lenText (x :: y :: l) = lenText (y :: l) ++ ((ByteArray.mk #[91] ++ x) ++ ByteArray.mk #[93]) from rfl, bytes_append, bytes_append, bytes_append]
    generalize lenText (y :: l) = Y
    simp [dimPre, emptyW]

theorem arrSt_out (s : ByteArray) (ls : List ByteArray) (h : ls ≠ []) : (arrSt PS.start s [] ls).out = ((s ++ ByteArray.mk #[32]) ++ lenText ls.reverse).data.toList := by
  cases ls with
  | nil => exact absurd rfl h
  | cons x ls =>
    show (dimSt (PS.start.text s.data.toList) ((x :: ls).reverse ++ [])).out = _
    rw [List.append_nil]
    cases hr : (x :: ls).reverse with
    | nil => simp at hr
    | cons y l =>
      rw [dimSt_out, PS.text_out, bytes_append, bytes_append]
      simp [PS.start]

/-- What 'arrays' hands back. -/
def ArraysMade (s : ByteArray) (ss : List ByteArray) (w : World) (e : Ending) (w' : World) : Prop :=
  ∃ T f b, e = .returned (.iface T (.pointer (some ⟨b, 0, none⟩))) ∧ Arr w'.heap.size w' s ss T f b ∧ Below w.heap.size w w'

theorem drop_at (ss : List ByteArray) (k : Nat) (hk : k < ss.length) : ss.drop k = ss.getD k ⟨#[]⟩ :: ss.drop (k + 1) := by
  rw [List.drop_eq_getElem_cons hk]
  simp [List.getD, hk]

set_option maxHeartbeats 1000000 in
theorem arrays_any (s : ByteArray) (a : Option Addr) (n cap : Nat) (ss : List ByteArray) (w : World) (h : Strs w a n ss) (hn : n ≤ 2000) :
    Calls Try.prog 37 #[.string s, .slice a n cap] w (ArraysMade s ss w) := by
  have HS := Lib.hid h
  clear h
  go_enter Try.func37, Try.ntmps37
  go_wp2_with fail
  refine (builtin_any s w).mono ?_
  rintro e w1 ⟨rfl, rfl⟩
  go_wp2_with fail
  go_loopw [5, 6] (fun v i wr => ∃ k : Nat, k ≤ n ∧ i = .int .i64 ((k : Int) - 1) ∧ ∃ T f b, v = .iface T (.pointer (some ⟨b, 0, none⟩)) ∧ Arr wr.heap.size wr s (ss.drop k) T f b ∧ Below w.heap.size w wr) (fun _ i _ => (intOf i + 1).toNat)
  case atStart =>
    refine ⟨n, Nat.le_refl _, rfl, 100, 128, w.heap.size, rfl, ?_, (Below.refl _ _).alloc (Nat.le_refl _) _⟩
    rw [List.drop_of_length_le (by rw [HS.out.len]; exact Nat.le_refl _)]
    exact ⟨⟨rfl, rfl⟩, by simp, heap_alloc_new _ _⟩
  case round =>
    obtain ⟨k, hk, rfl, T, f, b, rfl, hp, hbel⟩ := hrel
    by_cases hlt : 0 < k
    · obtain ⟨k, rfl⟩ : ∃ j, k = j + 1 := ⟨k - 1, by omega⟩
      obtain ⟨bl, off, rfl, hbl, hc⟩ := HS.out.cells (by omega)
      have hc1 : wr.cell? ⟨bl, off + k, none⟩ = some (.string (ss.getD k ⟨#[]⟩)) := by rw [hbel.cell (p := ⟨bl, off + k, none⟩) hbl]; exact hc k (by omega)
      have HT := Lib.hid (drop_at ss k (by rw [HS.out.len]; omega))
      clear hc
      generalize ss.getD k ⟨#[]⟩ = x at *
      have hnew : Arr ((wr.alloc (.cells #[.string x] 99)).alloc (.cells #[.iface 97 (.pointer (some ⟨wr.heap.size, 0, none⟩)), .iface T (.pointer (some ⟨b, 0, none⟩))] 107)).heap.size
          ((wr.alloc (.cells #[.string x] 99)).alloc (.cells #[.iface 97 (.pointer (some ⟨wr.heap.size, 0, none⟩)), .iface T (.pointer (some ⟨b, 0, none⟩))] 107)) s (x :: ss.drop (k + 1)) 105 135 (wr.heap.size + 1) := by
        obtain ⟨h1, h2, h3⟩ := El.two wr #[.string x] 99 #[.iface 97 (.pointer (some ⟨wr.heap.size, 0, none⟩)), .iface T (.pointer (some ⟨b, 0, none⟩))] 107
        exact ⟨⟨rfl, rfl⟩, T, f, b, wr.heap.size, by have := hp.lt; omega, h2, h1, hp.grow (by simp; omega) h3⟩
      have hbn : Below w.heap.size w ((wr.alloc (.cells #[.string x] 99)).alloc (.cells #[.iface 97 (.pointer (some ⟨wr.heap.size, 0, none⟩)), .iface T (.pointer (some ⟨b, 0, none⟩))] 107)) := (hbel.alloc hbel.size _).alloc (by have := hbel.size; simp; omega) _
      have HN := Lib.hid hnew
      have HB := Lib.hid hbn
      clear hp hnew hbn hbel
      have ek : ((k + 1 : Nat) : Int) - 1 = (k : Int) := by omega
      rw [ek]
      go_wp2_with fail
      refine (name_any x wr).mono ?_
      rintro e w2 ⟨rfl, rfl⟩
      go_wp2_with fail
      go_roundw
      case rel => exact ⟨k, by omega, by go_num, _, _, _, rfl, by rw [HT.out]; exact HN.out, HB.out⟩
      case measure => simp [intOf]
    · have e : k = 0 := by omega
      subst e
      rw [List.drop_zero] at hp
      go_wp2_with fail
      go_ret
      exact ⟨T, f, b, rfl, hp, hbel⟩

set_option maxHeartbeats 1000000 in
theorem printArrays_any (s : ByteArray) (a : Option Addr) (n cap : Nat) (ss : List ByteArray) (w : World) (h : Strs w a n ss) (hn : n ≤ 2000) (h0 : 0 < n) (hl : s.size + dimLen ss ≤ 140737488355328) :
    Calls Try.prog 24 #[.string s, .slice a n cap] w fun e w' => e = .returned (.string ((s ++ ByteArray.mk #[32]) ++ lenText ss.reverse)) ∧ Below w.heap.size w w' := by
  have HS := Lib.hid h
  clear h
  go_enter Try.func24, Try.ntmps24
  go_wp2_with fail
  refine (arrays_any s a n cap ss w HS.out hn).mono ?_
  rintro e w1 ⟨T, f, b, rfl, hp, hb⟩
  go_wp2_with fail
  refine (ast_any T b f w1 ((s ++ ByteArray.mk #[32]) ++ lenText ss.reverse).data.toList hp.nodeT (fun w2 h2 hb2 => whole_of (arrSt_out s ss (by intro e; have := HS.out.len; rw [e] at this; simp at this; omega)) (root_arr _ s ss T f b w2 PS.start (hp.grow (Nat.le_refl _) hb2) (PX.start h2) rfl (by rw [HS.out.len]; omega) (by simpa [PS.start] using hl)))).mono ?_
  rintro e w2 ⟨rfl, hb2⟩
  rw [bytes_mk]
  have hfin := hb.trans (hb2.mono hb.size)
  clear hp hb hb2
  go_wp2_with fail
  go_ret
  exact ⟨rfl, hfin⟩

set_option maxHeartbeats 1000000 in
theorem lengths_any (a : Option Addr) (n cap : Nat) (ss : List ByteArray) (w : World) (h : Strs w a n ss) (hn : n ≤ 2000) (hm : ∀ s ∈ ss, s.size ≤ 2147483647) :
    Calls Try.prog 25 #[.slice a n cap] w fun e w' => e = .returned (.string (lenText ss.reverse)) ∧ w = w' := by
  have HS := Lib.hid h
  have hlen := h.len
  clear h
  go_enter Try.func25, Try.ntmps25
  go_wp2_with fail
  go_loop [3, 8] (fun v i => ∃ k : Nat, k ≤ n ∧ i = .int .i64 k ∧ v = .string (lenText (ss.take k).reverse)) (fun _ i => n - (intOf i).toNat)
  case atStart => exact ⟨0, Nat.zero_le _, rfl, rfl⟩
  case round =>
    obtain ⟨k, hk, rfl, rfl⟩ := hrel
    by_cases hlt : k < n
    · obtain ⟨bl, off, rfl, hbl, hc⟩ := HS.out.cells (by omega)
      have hc1 := hc k hlt
      have HT := Lib.hid (rev_take ss k (by omega))
      have hx : (ss.getD k ⟨#[]⟩).size ≤ 2147483647 := by
        have : ss.getD k ⟨#[]⟩ = ss[k]'(by omega) := by simp [List.getD, show k < ss.length by omega]
        rw [this]
        exact hm _ (List.getElem_mem _)
      have hz := lenText_size (ss.take k).reverse (fun x hx => hm x (List.mem_of_mem_take (List.mem_reverse.1 hx)))
      rw [List.length_reverse, List.length_take, hlen, Nat.min_eq_left hk] at hz
      have hz2 : (lenText (ss.take k).reverse).size ≤ 2000 * 2147483649 := Nat.le_trans hz (Nat.mul_le_mul_right _ (by omega))
      clear hc hz
      generalize ss.getD k ⟨#[]⟩ = x at *
      generalize hY : lenText (ss.take k).reverse = Y at *
      have HY := Lib.hid hY
      clear hY
      go_wp2_with fail
      go_round
      case rel => exact ⟨k + 1, by omega, by go_num, by rw [HT.out, lenText, HY.out]⟩
      case measure => simp [intOf]; omega
    · have e : ss.take k = ss := List.take_of_length_le (by omega)
      rw [e]
      clear e
      go_wp2_with fail
      go_ret
      exact ⟨rfl, rfl⟩

/-- Some bool, and nothing has turned. -/
def SomeBool (w : World) (e : Ending) (w' : World) : Prop := ∃ b, e = .returned (.bool b) ∧ w = w'

set_option maxHeartbeats 1000000 in
theorem clean_any (s : ByteArray) (w : World) (hs : s.size ≤ 2147483647) :
    Calls Try.prog 23 #[.string s] w (SomeBool w) := by
  by_cases h0 : s = ⟨#[]⟩
  · subst h0
    go_enter Try.func23, Try.ntmps23
    go_wp2_with fail
    go_ret
    exact ⟨_, rfl, rfl⟩
  · have h1 := str_ne h0
    have h2 : 0 < s.size := by
      rcases Nat.eq_zero_or_pos s.size with h | h
      · exact absurd (ByteArray.ext (Array.eq_empty_of_size_eq_zero h)) h0
      · exact h
    go_enter Try.func23, Try.ntmps23
    go_wp2_with fail
    all_goals (go_ret; exact ⟨_, rfl, rfl⟩)

section
variable (s : ByteArray) (a : Option Addr) (n cap : Nat) (ss : List ByteArray) (w : World)

set_option maxHeartbeats 1000000 in
theorem lawArrays_s (hs : s.size ≤ maxLen) (h1 : 2147483647 < s.size) : Calls Try.prog 8 #[.string s, .slice a n cap] w (Yes w) := by
  unfold maxLen at hs
  go_enter Try.func8, Try.ntmps8
  go_wp2_with fail
  go_ret
  exact ⟨rfl, Below.refl _ _⟩

set_option maxHeartbeats 1000000 in
theorem lawArrays_fits (h1 : s.size ≤ 2147483647) (hf : Calls Try.prog 16 #[.slice a n cap] w fun e w' => e = .returned (.bool false) ∧ w = w') : Calls Try.prog 8 #[.string s, .slice a n cap] w (Yes w) := by
  have HF := Lib.hid hf
  clear hf
  go_enter Try.func8, Try.ntmps8
  go_wp2_with fail
  refine HF.out.mono ?_
  rintro e w1 ⟨rfl, rfl⟩
  go_wp2_with fail
  go_ret
  exact ⟨rfl, Below.refl _ _⟩

set_option maxHeartbeats 1000000 in
theorem lawArrays_zero (h1 : s.size ≤ 2147483647) (h5 : n = 0) (hf : Calls Try.prog 16 #[.slice a n cap] w fun e w' => e = .returned (.bool true) ∧ w = w') : Calls Try.prog 8 #[.string s, .slice a n cap] w (Yes w) := by
  subst h5
  have HF := Lib.hid hf
  clear hf
  go_enter Try.func8, Try.ntmps8
  go_wp2_with fail
  refine HF.out.mono ?_
  rintro e w1 ⟨rfl, rfl⟩
  go_wp2_with fail
  refine (clean_any s w (by omega)).mono ?_
  rintro e w2 ⟨c, rfl, rfl⟩
  cases c
  · go_wp2_with fail
    go_ret
    exact ⟨rfl, Below.refl _ _⟩
  go_wp2_with fail
  go_ret
  exact ⟨rfl, Below.refl _ _⟩

set_option maxHeartbeats 1000000 in
theorem lawArrays_long (h1 : s.size ≤ 2147483647) (h5 : 1000 < n) (h6 : n ≤ maxLen) (hf : Calls Try.prog 16 #[.slice a n cap] w fun e w' => e = .returned (.bool true) ∧ w = w') : Calls Try.prog 8 #[.string s, .slice a n cap] w (Yes w) := by
  unfold maxLen at h6
  have HF := Lib.hid hf
  clear hf
  go_enter Try.func8, Try.ntmps8
  go_wp2_with fail
  refine HF.out.mono ?_
  rintro e w1 ⟨rfl, rfl⟩
  go_wp2_with fail
  refine (clean_any s w (by omega)).mono ?_
  rintro e w2 ⟨c, rfl, rfl⟩
  cases c
  · go_wp2_with fail
    go_ret
    exact ⟨rfl, Below.refl _ _⟩
  go_wp2_with fail
  go_ret
  exact ⟨rfl, Below.refl _ _⟩

set_option maxHeartbeats 1000000 in
theorem lawArrays_main (h1 : s.size ≤ 2147483647) (h4 : 0 < n) (h5 : n ≤ 1000) (hst : Strs w a n ss) (hall : ∀ x ∈ ss, x.size ≤ 2147483647) (hf : Calls Try.prog 16 #[.slice a n cap] w fun e w' => e = .returned (.bool true) ∧ w = w') : Calls Try.prog 8 #[.string s, .slice a n cap] w (Yes w) := by
  have HS := Lib.hid hst
  have hz : dimLen ss ≤ 1000 * 2147483650 := Nat.le_trans (dimLen_size ss hall) (by rw [hst.len]; exact Nat.mul_le_mul_right _ h5)
  have hz2 : (lenText ss.reverse).size ≤ 1000 * 2147483649 := Nat.le_trans (lenText_size ss.reverse (fun x hx => hall x (List.mem_reverse.1 hx))) (by rw [List.length_reverse, hst.len]; exact Nat.mul_le_mul_right _ h5)
  have hq : (((s ++ ByteArray.mk #[32]) ++ lenText ss.reverse).toList == ((s ++ ByteArray.mk #[32]) ++ lenText ss.reverse).toList) = true := str_same rfl
  have HA := Lib.hid hall
  have hn0 : ((n : Int) == 0) = false := by simp; omega
  clear hst hall
  have HF := Lib.hid hf
  clear hf
  go_enter Try.func8, Try.ntmps8
  go_wp2_with fail
  refine HF.out.mono ?_
  rintro e w1 ⟨rfl, rfl⟩
  go_wp2_with fail
  refine (clean_any s w (by omega)).mono ?_
  rintro e w2 ⟨c, rfl, rfl⟩
  cases c
  · go_wp2_with fail
    go_ret
    exact ⟨rfl, Below.refl _ _⟩
  go_wp2_with fail
  refine (printArrays_any s a n cap ss w HS.out (by omega) h4 (by omega)).mono ?_
  rintro e w3 ⟨rfl, hb3⟩
  go_wp2_with fail
  refine (lengths_any a n cap ss w3 (HS.out.keep hb3) (by omega) HA.out).mono ?_
  rintro e w4 ⟨rfl, rfl⟩
  generalize lenText ss.reverse = Y at *
  go_wp2_with fail
  go_ret
  exact ⟨rfl, hb3⟩
end

theorem lawArrays_any (s : ByteArray) (hs : s.size ≤ maxLen) (a : Option Addr) (n cap : Nat) (ss : List ByteArray) {w0 : World} (h : StrArg w0 a n cap ss) (w : World) (hw : w = w0 := by rfl) :
    Calls Try.prog 8 #[.string s, .slice a n cap] w (Yes w) := by
  subst hw
  by_cases h1 : 2147483647 < s.size
  · exact lawArrays_s s a n cap w hs h1
  have hfit := fits_is a n cap ss w h.strs h.len h.sizes
  by_cases h2 : (decide (n ≤ 2147483647) && fitsB ss) = false
  · exact lawArrays_fits s a n cap w (by omega) (hfit false h2.symm)
  have h2' : (decide (n ≤ 2147483647) && fitsB ss) = true := by simpa using h2
  have hf1 := hfit true h2'.symm
  have hall := fitsB_all (Bool.and_eq_true _ _ ▸ h2').2
  by_cases h5 : 1000 < n
  · exact lawArrays_long s a n cap w (by omega) h5 h.len hf1
  by_cases h6 : n = 0
  · exact lawArrays_zero s a n cap w (by omega) h6 hf1
  exact lawArrays_main s a n cap ss w (by omega) (by omega) (by omega) h.strs hall hf1

end Go.Proofs.Ytjemnnfnocmjlaa

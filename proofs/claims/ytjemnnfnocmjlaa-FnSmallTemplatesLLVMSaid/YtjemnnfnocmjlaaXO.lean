/-
  FnSmallTemplatesLLVM, walked: true, whatever the texts.
-/
import Derived.Test.YtjemnnfnocmjlaaXN
namespace Go.Proofs.Ytjemnnfnocmjlaa
open Go.RowKit

theorem okName_of {x : ByteArray} (h0 : 0 < x.size) (h : (((x[x.size - 1]'(by omega)).toNat : Int) == 60) = false) : OkName x := by
  intro σ
  have e : x.data.toList.getLast? = some (x[x.size - 1]'(by omega)) := by
    rw [List.getLast?_eq_getElem?]
    have hl : x.data.toList.length = x.size := Array.length_toList
    rw [hl, List.getElem?_eq_getElem (by omega)]
    rfl
  show ((match x.data.toList.getLast? with | none => σ.last | some b => ((b.toNat : Nat) : Int)) == 60) = false
  rw [e]
  exact h

theorem tmText_size (args l : List ByteArray) (ha : ∀ x ∈ args, x.size ≤ 2147483647) (h : ∀ x ∈ l, x.size ≤ 2147483647) : (tmText args l).size ≤ (args.length + l.length) * 2147483649 := by
  induction l with
  | nil => exact joinN_size args ha _ (Nat.le_refl _)
  | cons x l ih =>
    have := ih (fun s hs => h s (List.mem_cons_of_mem _ hs))
    have hx := h x (List.mem_cons_self ..)
    rw [tmText, ByteArray.size_append, ByteArray.size_append, ByteArray.size_append, show (ByteArray.mk #[60]).size = 1 from rfl, show (ByteArray.mk #[62]).size = 1 from rfl, List.length_cons, ← Nat.add_assoc, Nat.add_mul (args.length + l.length)]
    omega

section
variable (a : Option Addr) (n cap : Nat) (ns : List ByteArray) (s : ByteArray) (a2 : Option Addr) (n2 cap2 : Nat) (bs : List ByteArray) (w : World)

set_option maxHeartbeats 1000000 in
theorem lawTm_fits (hf : Calls Try.prog 16 #[.slice a n cap] w fun e w' => e = .returned (.bool false) ∧ w = w') : Calls Try.prog 11 #[.slice a n cap, .string s, .slice a2 n2 cap2] w (Yes w) := by
  have HF := Lib.hid hf
  clear hf
  go_enter Try.func11, Try.ntmps11
  go_wp2_with fail
  refine HF.out.mono ?_
  rintro e w1 ⟨rfl, rfl⟩
  go_wp2_with fail
  go_ret
  exact ⟨rfl, Below.refl _ _⟩

set_option maxHeartbeats 1000000 in
theorem lawTm_s (h1 : 2147483647 < s.size) (h2 : s.size ≤ maxLen) (hf : Calls Try.prog 16 #[.slice a n cap] w fun e w' => e = .returned (.bool true) ∧ w = w') : Calls Try.prog 11 #[.slice a n cap, .string s, .slice a2 n2 cap2] w (Yes w) := by
  unfold maxLen at h2
  have HF := Lib.hid hf
  clear hf
  go_enter Try.func11, Try.ntmps11
  go_wp2_with fail
  refine HF.out.mono ?_
  rintro e w1 ⟨rfl, rfl⟩
  go_wp2_with fail
  go_ret
  exact ⟨rfl, Below.refl _ _⟩

set_option maxHeartbeats 1000000 in
theorem lawTm_fits2 (h1 : s.size ≤ 2147483647) (hf : Calls Try.prog 16 #[.slice a n cap] w fun e w' => e = .returned (.bool true) ∧ w = w') (hf2 : Calls Try.prog 16 #[.slice a2 n2 cap2] w fun e w' => e = .returned (.bool false) ∧ w = w') : Calls Try.prog 11 #[.slice a n cap, .string s, .slice a2 n2 cap2] w (Yes w) := by
  have HF := Lib.hid hf
  clear hf
  have HF2 := Lib.hid hf2
  clear hf2
  go_enter Try.func11, Try.ntmps11
  go_wp2_with fail
  refine HF.out.mono ?_
  rintro e w1 ⟨rfl, rfl⟩
  go_wp2_with fail
  refine HF2.out.mono ?_
  rintro e w1 ⟨rfl, rfl⟩
  go_wp2_with fail
  go_ret
  exact ⟨rfl, Below.refl _ _⟩

set_option maxRecDepth 100000 in
set_option maxHeartbeats 4000000 in
theorem lawTm_main (h1 : s.size ≤ 2147483647) (h3 : n ≤ 2147483647) (h4 : n2 ≤ 2147483647) (hst : Strs w a n ns) (hst2 : Strs w a2 n2 bs) (hcap : a2 = none → cap2 = 0) (hall : ∀ x ∈ ns, x.size ≤ 2147483647) (hall2 : ∀ x ∈ bs, x.size ≤ 2147483647) (hf : Calls Try.prog 16 #[.slice a n cap] w fun e w' => e = .returned (.bool true) ∧ w = w') (hf2 : Calls Try.prog 16 #[.slice a2 n2 cap2] w fun e w' => e = .returned (.bool true) ∧ w = w') : Calls Try.prog 11 #[.slice a n cap, .string s, .slice a2 n2 cap2] w (Yes w) := by
  have HF := Lib.hid hf
  have HF2 := Lib.hid hf2
  have HS := Lib.hid hst
  have HS2 := Lib.hid hst2
  have HC := Lib.hid hcap
  have hlen := hst.len
  have hlen2 := hst2.len
  have hall3 : ∀ x ∈ (s :: bs), x.size ≤ 2147483647 := fun x hx => by
    rcases List.mem_cons.1 hx with rfl | hx
    · exact h1
    · exact hall2 x hx
  have HA := Lib.hid hall
  have HA3 := Lib.hid hall3
  obtain ⟨i0, hi, hz0, hz1, hz2'⟩ := info_parts Try.infoStr
  clear hf hf2 hst hst2 hcap hall hall2 hall3
  go_enter Try.func11, Try.ntmps11
  go_wp2_with fail
  refine HF.out.mono ?_
  rintro e w1 ⟨rfl, rfl⟩
  go_wp2_with fail
  refine HF2.out.mono ?_
  rintro e w1 ⟨rfl, rfl⟩
  have hrow := World.ownsRow_lit (base := w.heap.size) (e := 9) (size := 1) w #[.string s] 1 (Nat.le_refl _) (by decide) rfl
  have hb0 : Below w.heap.size w (w.alloc (.cells #[.string s] 9)) := (Below.refl _ _).alloc (Nat.le_refl _) _
  go_wp2_with (at_builtin; refine wpList_append_src _ rfl _ _ 28 28 rfl w.heap.size 9 i0 (.string ⟨#[]⟩) 1 16 Try.underlying28 hi hz0 hz1 hz2' rfl _ _ 1 [.string s] rfl rfl hrow n2 (bs.map Value.string) ((HS2.out.keep hb0).src HC.out) ?c3 (by omega) (by simp) ?_)
  case c3 => unfold maxLen; omega
  intro v1 w2 hown1 hg1
  have hb1 : Below w.heap.size w w2 := hb0.grown hg1 (by simp) (fun k hk => by simp [Value.ownBlock] at hk; omega)
  obtain ⟨a3, cap3, rfl, hs3, _⟩ := Strs.ofOwn (n := 1 + n2) (ss := s :: bs) (by simpa using hown1)
  clear hrow hb0 hown1 hg1
  have HS3 := Lib.hid hs3
  clear hs3
  go_wp2_with fail
  refine (list_any a3 (1 + n2) cap3 (s :: bs) w2 HS3.out (by omega) HA3.out).mono ?_
  rintro e w3 ⟨t, ok, rfl, hok, rfl⟩
  cases ok
  · go_wp2_with fail
    go_ret
    exact ⟨rfl, hb1⟩
  obtain ⟨hn2, rfl⟩ := hok rfl
  clear hok
  by_cases hn0 : n = 0
  · subst hn0
    generalize joinN (s :: bs) (1 + n2) = Y
    go_wp2_with fail
    go_ret
    exact ⟨rfl, hb1⟩
  have hnz : ((n : Int) == 0) = false := by simp; omega
  by_cases hn3 : 1000 < n
  · generalize joinN (s :: bs) (1 + n2) = Y
    go_wp2_with fail
    go_ret
    exact ⟨rfl, hb1⟩
  have hj : joinN (s :: bs) (1 + n2) = tmText (s :: bs) [] := by rw [tmText, List.length_cons, hlen2, Nat.add_comm]
  rw [hj]
  clear hj
  have HS' := Lib.hid (HS.out.keep hb1)
  have HS2' := Lib.hid (HS2.out.keep hb1)
  go_wp2_with fail
  go_loop [7, 46] (fun v i => ∃ k : Nat, k ≤ n ∧ i = .int .i64 k ∧ v = .string (tmText (s :: bs) (ns.drop (n - k))) ∧ ∀ x ∈ ns.drop (n - k), OkName x) (fun _ i => n - (intOf i).toNat)
  case atStart =>
    refine ⟨0, Nat.zero_le _, rfl, ?_, ?_⟩
    · rw [Nat.sub_zero, List.drop_of_length_le (by omega)]
    · rw [Nat.sub_zero, List.drop_of_length_le (by omega)]
      exact fun x hx => by simp at hx
  case round =>
    obtain ⟨k, hk, rfl, rfl, hoks⟩ := hrel
    have HOK := Lib.hid hoks
    clear hoks
    have hz := tmText_size (s :: bs) (ns.drop (n - k)) HA3.out (fun x hx => HA.out x (List.mem_of_mem_drop hx))
    rw [List.length_cons, hlen2, List.length_drop, hlen] at hz
    have hz2 : (tmText (s :: bs) (ns.drop (n - k))).size ≤ 3000 * 2147483649 := Nat.le_trans hz (Nat.mul_le_mul_right _ (by omega))
    clear hz
    by_cases hlt : k < n
    · obtain ⟨bl, off, rfl, hbl, hc⟩ := HS'.out.cells (by omega)
      have hc1 := hc (n - 1 - k) (by omega)
      have HD := Lib.hid (drop_getD ns (n - 1 - k) (by omega))
      have HX := Lib.hid (show ns.getD (n - 1 - k) ⟨#[]⟩ ∈ ns by
        have : ns.getD (n - 1 - k) ⟨#[]⟩ = ns[n - 1 - k]'(by omega) := by simp [List.getD, show n - 1 - k < ns.length by omega]
        rw [this]
        exact List.getElem_mem _)
      have hx := HA.out _ HX.out
      have en : n - 1 - k + 1 = n - k := by omega
      rw [en] at HD
      clear hc HX
      generalize ns.getD (n - 1 - k) ⟨#[]⟩ = x at *
      generalize hY : tmText (s :: bs) (ns.drop (n - k)) = Y at *
      have HY := Lib.hid hY
      clear hY
      by_cases hx0 : x = ⟨#[]⟩
      · subst hx0
        clear HD
        go_wp2_with fail
        go_ret
        exact ⟨rfl, hb1⟩
      have hxe := isEmpty_no hx0
      have hxs : 0 < x.size := by
        rcases Nat.eq_zero_or_pos x.size with h | h
        · exact absurd (ByteArray.ext (Array.eq_empty_of_size_eq_zero h)) hx0
        · exact h
      cases hq : (((x[x.size - 1]'(by omega)).toNat : Int) == 60)
      · have hokx := okName_of hxs hq
        have HX2 := Lib.hid hokx
        clear hokx
        go_wp2_with fail
        go_round
        case rel =>
          refine ⟨k + 1, by omega, by go_num, ?_, ?_⟩
          · rw [show n - (k + 1) = n - 1 - k by omega, HD.out, tmText, HY.out]
          · rw [show n - (k + 1) = n - 1 - k by omega, HD.out]
            intro y hy
            rcases List.mem_cons.1 hy with rfl | hy
            · exact HX2.out
            · exact HOK.out y hy
        case measure => simp [intOf]; omega
      · go_wp2_with fail
        go_ret
        exact ⟨rfl, hb1⟩
    · have e : k = n := by omega
      subst e
      rw [Nat.sub_self, List.drop_zero] at *
      have hq := str_same (a := tmText (s :: bs) ns) rfl
      go_wp2_with fail
      refine (printTemplates_any a k cap ns s a2 n2 cap2 bs w2 HS'.out HS2'.out (by omega) (by omega) (by omega) HOK.out (by omega)).mono ?_
      rintro e w4 ⟨rfl, hb4⟩
      have hfin := hb1.trans (hb4.mono hb1.size)
      clear hb4
      generalize tmText (s :: bs) ns = Y at *
      go_wp2_with fail
      go_ret
      exact ⟨rfl, hfin⟩
end

theorem lawTm_any (a : Option Addr) (n cap : Nat) (ns : List ByteArray) {w0 : World} (h : StrArg w0 a n cap ns) (s : ByteArray) (hs : s.size ≤ maxLen) (a2 : Option Addr) (n2 cap2 : Nat) (bs : List ByteArray) (h2 : StrArg w0 a2 n2 cap2 bs) (w : World) (hw : w = w0 := by rfl) :
    Calls Try.prog 11 #[.slice a n cap, .string s, .slice a2 n2 cap2] w (Yes w) := by
  subst hw
  have hfit := fits_is a n cap ns w h.strs h.len h.sizes
  by_cases g1 : (decide (n ≤ 2147483647) && fitsB ns) = false
  · exact lawTm_fits a n cap s a2 n2 cap2 w (hfit false g1.symm)
  have g1' : (decide (n ≤ 2147483647) && fitsB ns) = true := by simpa using g1
  have hf1 := hfit true g1'.symm
  have hn1 := of_decide_eq_true (Bool.and_eq_true _ _ ▸ g1').1
  have hall := fitsB_all (Bool.and_eq_true _ _ ▸ g1').2
  by_cases h1 : 2147483647 < s.size
  · exact lawTm_s a n cap s a2 n2 cap2 w h1 hs hf1
  have hfit2 := fits_is a2 n2 cap2 bs w h2.strs h2.len h2.sizes
  by_cases g2 : (decide (n2 ≤ 2147483647) && fitsB bs) = false
  · exact lawTm_fits2 a n cap s a2 n2 cap2 w (by omega) hf1 (hfit2 false g2.symm)
  have g2' : (decide (n2 ≤ 2147483647) && fitsB bs) = true := by simpa using g2
  have hf2 := hfit2 true g2'.symm
  have hn2 := of_decide_eq_true (Bool.and_eq_true _ _ ▸ g2').1
  have hall2 := fitsB_all (Bool.and_eq_true _ _ ▸ g2').2
  exact lawTm_main a n cap ns s a2 n2 cap2 bs w (by omega) hn1 hn2 h.strs h2.strs h2.nil hall hall2 hf1 hf2

end Go.Proofs.Ytjemnnfnocmjlaa

/-
  Traverse over lists of elements.
-/
import Derived.Test.YtdlhhdhooacogaaGreatDoorYD
namespace Go.Proofs.YtdlhhdhooacogaaGreatDoor
open Go.RowKit

/-- The row a holds n elements: the kinds that each hands on. -/
def Row (o s : Nat) (stop : ByteArray) (w0 : World) (a : Option Addr) (n : Nat) (kss : List (List ByteArray)) : Prop :=
  n = kss.length ∧ n ≤ 1000 ∧ (0 < n → ∃ g, a = some ⟨g, 0, none⟩ ∧ g < w0.heap.size ∧ g ≠ o ∧ ∀ i, i < n → ∃ c, w0.cell? ⟨g, i, none⟩ = some c ∧ Goes o s stop w0 (kss.getD i []) c)

theorem take_flat (kss : List (List ByteArray)) (k : Nat) (hk : k < kss.length) : (kss.take (k + 1)).flatten = (kss.take k).flatten ++ kss.getD k [] := by
  rw [List.take_succ_eq_append_getElem hk, List.flatten_append]
  congr 1
  simp [List.getD, hk]

theorem flat_le (kss : List (List ByteArray)) (k : Nat) (hk : k < kss.length) : (kss.take k).flatten.length + (kss.getD k []).length ≤ kss.flatten.length := by
  have h := take_flat kss k hk
  have h2 : kss.flatten.length = (kss.take (k + 1)).flatten.length + (kss.drop (k + 1)).flatten.length := by
    rw [← List.length_append, ← List.flatten_append, List.take_append_drop]
  rw [h2, h, List.length_append]
  omega

set_option maxHeartbeats 2000000 in
theorem tr_ArgumentPack (o s b : Nat) (stop : ByteArray) (w0 : World) (a : Option Addr) (n cap : Nat) (kss : List (List ByteArray)) (hr : Row o s stop w0 a n kss) (hc : w0.cell? ⟨b, 0, none⟩ = some (.slice a n cap)) (hb : b < w0.heap.size) (hbo : b ≠ o) :
    Goes o s stop w0 (⟨#[65, 114, 103, 117, 109, 101, 110, 116, 80, 97, 99, 107]⟩ :: (if (⟨#[65, 114, 103, 117, 109, 101, 110, 116, 80, 97, 99, 107]⟩ : ByteArray) = stop then [] else kss.flatten)) (.iface 115 (.pointer (some ⟨b, 0, none⟩))) := by
  obtain ⟨hn, hn2, hrow⟩ := hr
  have HN := Lib.hid hn
  have HR := Lib.hid hrow
  clear hn hrow
  have HC := Lib.hid hc
  clear hc
  refine ⟨115, 155, b, rfl, meth_ArgumentPack, fun w xs hst hlen => ?_⟩
  have HST := Lib.hid hst
  have HB := Lib.hid hb
  have HBO := Lib.hid hbo
  clear hst hb hbo
  rcases bt ((⟨#[65, 114, 103, 117, 109, 101, 110, 116, 80, 97, 99, 107]⟩ : ByteArray).toList == stop.toList) with q | q
  · have HQ := Lib.hid q
    rw [if_pos (eq_stop q)] at hlen ⊢
    clear q
    go_enter Tryz.func155, Tryz.ntmps155
    go_wp2_with fail
    refine (clo_any 115 ⟨#[65, 114, 103, 117, 109, 101, 110, 116, 80, 97, 99, 107]⟩ kindOf_ArgumentPack o s stop _ xs w0 w HST.out (by simp at hlen; omega) true HQ.out).mono ?_
    rintro e w1 ⟨rfl, hs1⟩
    go_wp2_with fail
    go_end0
    exact ⟨rfl, hs1⟩
  · have HQ := Lib.hid q
    rw [if_neg (ne_stop q)] at hlen ⊢
    clear q
    simp only [List.length_cons] at hlen
    go_enter Tryz.func155, Tryz.ntmps155
    go_wp2_with fail
    refine (clo_any 115 ⟨#[65, 114, 103, 117, 109, 101, 110, 116, 80, 97, 99, 107]⟩ kindOf_ArgumentPack o s stop _ xs w0 w HST.out (by omega) false HQ.out).mono ?_
    rintro e w1 ⟨rfl, hs1⟩
    have h0 := hs1.cell HB.out HBO.out HC.out
    have HS1 := Lib.hid hs1
    have HLEN := Lib.hid hlen
    clear hs1 hlen
    go_wp2_with fail
    go_loopw [15] (fun i wr => ∃ k : Nat, k ≤ n ∧ i = .int .i64 k ∧ St o s stop w0 wr ((xs ++ [⟨#[65, 114, 103, 117, 109, 101, 110, 116, 80, 97, 99, 107]⟩]) ++ (kss.take k).flatten)) (fun i _ => n - (intOf i).toNat)
    case atStart => exact ⟨0, Nat.zero_le _, rfl, by simpa using HS1.out⟩
    case round =>
      obtain ⟨k, hk, rfl, hsk⟩ := hrel
      by_cases hlt : k < n
      · have hlt2 : (k : Int) < (n : Int) := by omega
        obtain ⟨g, rfl, hg, hgo, hcs⟩ := HR.out (by omega)
        obtain ⟨c, hc, hgoes⟩ := hcs k hlt
        obtain ⟨T', f', b', rfl, hm, hcall⟩ := hgoes
        have g0 := hsk.cell hg hgo hc
        have e1 := hm.m
        have e2 := hm.c
        have HCALL := Lib.hid hcall
        have HSK := Lib.hid hsk
        have HTK := Lib.hid (take_flat kss k (by rw [← HN.out]; exact hlt))
        have HLK := Lib.hid (flat_le kss k (by rw [← HN.out]; exact hlt))
        clear hcs hcall hsk hc hg hgo
        go_wp2_with fail
        refine (HCALL.out _ _ HSK.out (by have h1 := HLK.out; have h2 := HLEN.out; simp only [List.length_append, List.length_cons, List.length_nil] at h1 h2 ⊢; omega)).mono ?_
        rintro e w3 ⟨rfl, hs3⟩
        have HS3 := Lib.hid (show St o s stop w0 w3 ((xs ++ [⟨#[65, 114, 103, 117, 109, 101, 110, 116, 80, 97, 99, 107]⟩]) ++ (kss.take (k + 1)).flatten) by rw [HTK.out, ← List.append_assoc]; exact hs3)
        clear hs3
        go_wp2_with fail
        go_roundw
        case rel => exact ⟨k + 1, by omega, by go_num, HS3.out⟩
        case measure => simp [intOf]; omega
      · obtain rfl : k = n := by omega
        have HSK := Lib.hid hsk
        have HALL := Lib.hid (show kss.take k = kss by rw [HN.out]; exact List.take_length)
        clear hsk
        go_wp2_with fail
        go_end0
        exact ⟨rfl, by have := HSK.out; rw [HALL.out] at this; simpa using this⟩

set_option maxHeartbeats 2000000 in
theorem tr_Closure (o s b : Nat) (stop : ByteArray) (w0 : World) (a : Option Addr) (n cap : Nat) (kss : List (List ByteArray)) (hr : Row o s stop w0 a n kss) (hc0 : w0.cell? ⟨b, 0, none⟩ = some (.slice none 0 0)) (hc1 : w0.cell? ⟨b, 1, none⟩ = some .nilIface) (hc2 : w0.cell? ⟨b, 2, none⟩ = some (.slice a n cap)) (hc3 : w0.cell? ⟨b, 4, none⟩ = some .nilIface) (hb : b < w0.heap.size) (hbo : b ≠ o) :
    Goes o s stop w0 (⟨#[67, 108, 111, 115, 117, 114, 101]⟩ :: (if (⟨#[67, 108, 111, 115, 117, 114, 101]⟩ : ByteArray) = stop then [] else kss.flatten)) (.iface 122 (.pointer (some ⟨b, 0, none⟩))) := by
  obtain ⟨hn, hn2, hrow⟩ := hr
  have HN := Lib.hid hn
  have HR := Lib.hid hrow
  clear hn hrow
  have HC0 := Lib.hid hc0
  have HC1 := Lib.hid hc1
  have HC2 := Lib.hid hc2
  have HC3 := Lib.hid hc3
  clear hc0 hc1 hc2 hc3
  refine ⟨122, 161, b, rfl, meth_Closure, fun w xs hst hlen => ?_⟩
  have HST := Lib.hid hst
  have HB := Lib.hid hb
  have HBO := Lib.hid hbo
  clear hst hb hbo
  rcases bt ((⟨#[67, 108, 111, 115, 117, 114, 101]⟩ : ByteArray).toList == stop.toList) with q | q
  · have HQ := Lib.hid q
    rw [if_pos (eq_stop q)] at hlen ⊢
    clear q
    go_enter Tryz.func161, Tryz.ntmps161
    go_wp2_with fail
    refine (clo_any 122 ⟨#[67, 108, 111, 115, 117, 114, 101]⟩ kindOf_Closure o s stop _ xs w0 w HST.out (by simp at hlen; omega) true HQ.out).mono ?_
    rintro e w1 ⟨rfl, hs1⟩
    go_wp2_with fail
    go_end0
    exact ⟨rfl, hs1⟩
  · have HQ := Lib.hid q
    rw [if_neg (ne_stop q)] at hlen ⊢
    clear q
    simp only [List.length_cons] at hlen
    go_enter Tryz.func161, Tryz.ntmps161
    go_wp2_with fail
    refine (clo_any 122 ⟨#[67, 108, 111, 115, 117, 114, 101]⟩ kindOf_Closure o s stop _ xs w0 w HST.out (by omega) false HQ.out).mono ?_
    rintro e w1 ⟨rfl, hs1⟩
    have h0 := hs1.cell HB.out HBO.out HC0.out
    have h1 := hs1.cell HB.out HBO.out HC1.out
    have h2 := hs1.cell HB.out HBO.out HC2.out
    have HS1 := Lib.hid hs1
    have HLEN := Lib.hid hlen
    clear hs1 hlen
    go_wp2_with fail
    refine wp_loop_rounds 1 ?_
    rw [rounds_succ]
    go_wp2_with fail
    go_loopw [41] (fun i wr => ∃ k : Nat, k ≤ n ∧ i = .int .i64 k ∧ St o s stop w0 wr ((xs ++ [⟨#[67, 108, 111, 115, 117, 114, 101]⟩]) ++ (kss.take k).flatten)) (fun i _ => n - (intOf i).toNat)
    case atStart => exact ⟨0, Nat.zero_le _, rfl, by simpa using HS1.out⟩
    case round =>
      obtain ⟨k, hk, rfl, hsk⟩ := hrel
      by_cases hlt : k < n
      · have hlt2 : (k : Int) < (n : Int) := by omega
        obtain ⟨g, rfl, hg, hgo, hcs⟩ := HR.out (by omega)
        obtain ⟨c, hc, hgoes⟩ := hcs k hlt
        obtain ⟨T', f', b', rfl, hm, hcall⟩ := hgoes
        have g0 := hsk.cell hg hgo hc
        have e1 := hm.m
        have e2 := hm.c
        have HCALL := Lib.hid hcall
        have HSK := Lib.hid hsk
        have HTK := Lib.hid (take_flat kss k (by rw [← HN.out]; exact hlt))
        have HLK := Lib.hid (flat_le kss k (by rw [← HN.out]; exact hlt))
        clear hcs hcall hsk hc hg hgo
        go_wp2_with fail
        refine (HCALL.out _ _ HSK.out (by have h1 := HLK.out; have h2 := HLEN.out; simp only [List.length_append, List.length_cons, List.length_nil] at h1 h2 ⊢; omega)).mono ?_
        rintro e w3 ⟨rfl, hs3⟩
        have HS3 := Lib.hid (show St o s stop w0 w3 ((xs ++ [⟨#[67, 108, 111, 115, 117, 114, 101]⟩]) ++ (kss.take (k + 1)).flatten) by rw [HTK.out, ← List.append_assoc]; exact hs3)
        clear hs3
        go_wp2_with fail
        go_roundw
        case rel => exact ⟨k + 1, by omega, by go_num, HS3.out⟩
        case measure => simp [intOf]; omega
      · obtain rfl : k = n := by omega
        have HSK := Lib.hid hsk
        have HALL := Lib.hid (show kss.take k = kss by rw [HN.out]; exact List.take_length)
        clear hsk
        have h3 := HSK.out.cell HB.out HBO.out HC3.out
        go_wp2_with fail
        go_end0
        exact ⟨rfl, by have := HSK.out; rw [HALL.out] at this; simpa using this⟩

set_option maxHeartbeats 2000000 in
theorem tr_Template (o s b : Nat) (stop : ByteArray) (w0 : World) (a : Option Addr) (n cap : Nat) (kss : List (List ByteArray)) (hr : Row o s stop w0 a n kss) (c : Value) (ks : List ByteArray) (hg : Goes o s stop w0 ks c) (hc : w0.cell? ⟨b, 0, none⟩ = some c) (hc1 : w0.cell? ⟨b, 1, none⟩ = some (.slice a n cap)) (hb : b < w0.heap.size) (hbo : b ≠ o) :
    Goes o s stop w0 (⟨#[84, 101, 109, 112, 108, 97, 116, 101]⟩ :: (if (⟨#[84, 101, 109, 112, 108, 97, 116, 101]⟩ : ByteArray) = stop then [] else (ks ++ kss.flatten))) (.iface 59 (.pointer (some ⟨b, 0, none⟩))) := by
  obtain ⟨hn, hn2, hrow⟩ := hr
  have HN := Lib.hid hn
  have HR := Lib.hid hrow
  clear hn hrow
  obtain ⟨T', f', b', rfl, hm, hgo⟩ := hg
  have H := Lib.hid hgo
  clear hgo
  have HC := Lib.hid hc
  have HC1 := Lib.hid hc1
  clear hc hc1
  refine ⟨59, 98, b, rfl, meth_Template, fun w xs hst hlen => ?_⟩
  have HST := Lib.hid hst
  have HB := Lib.hid hb
  have HBO := Lib.hid hbo
  clear hst hb hbo
  rcases bt ((⟨#[84, 101, 109, 112, 108, 97, 116, 101]⟩ : ByteArray).toList == stop.toList) with q | q
  · have HQ := Lib.hid q
    rw [if_pos (eq_stop q)] at hlen ⊢
    clear q
    go_enter Tryz.func98, Tryz.ntmps98
    go_wp2_with fail
    refine (clo_any 59 ⟨#[84, 101, 109, 112, 108, 97, 116, 101]⟩ kindOf_Template o s stop _ xs w0 w HST.out (by simp at hlen; omega) true HQ.out).mono ?_
    rintro e w1 ⟨rfl, hs1⟩
    go_wp2_with fail
    go_end0
    exact ⟨rfl, hs1⟩
  · have HQ := Lib.hid q
    rw [if_neg (ne_stop q)] at hlen ⊢
    clear q
    simp only [List.length_cons] at hlen
    go_enter Tryz.func98, Tryz.ntmps98
    go_wp2_with fail
    refine (clo_any 59 ⟨#[84, 101, 109, 112, 108, 97, 116, 101]⟩ kindOf_Template o s stop _ xs w0 w HST.out (by omega) false HQ.out).mono ?_
    rintro e w1 ⟨rfl, hs1⟩
    have h0 := hs1.cell HB.out HBO.out HC.out
    have e1 := hm.m
    have e2 := hm.c
    have HS1 := Lib.hid hs1
    clear hs1
    rw [List.length_append] at hlen
    go_wp2_with fail
    refine (H.out _ _ HS1.out (by simp; omega)).mono ?_
    rintro e w2 ⟨rfl, hs2⟩
    have h1 := hs2.cell HB.out HBO.out HC1.out
    have HS2 := Lib.hid hs2
    have HLEN := Lib.hid hlen
    clear hs2 hlen h0 e1 e2
    go_wp2_with fail
    go_loopw [21] (fun i wr => ∃ k : Nat, k ≤ n ∧ i = .int .i64 k ∧ St o s stop w0 wr ((xs ++ [⟨#[84, 101, 109, 112, 108, 97, 116, 101]⟩] ++ ks) ++ (kss.take k).flatten)) (fun i _ => n - (intOf i).toNat)
    case atStart => exact ⟨0, Nat.zero_le _, rfl, by simpa using HS2.out⟩
    case round =>
      obtain ⟨k, hk, rfl, hsk⟩ := hrel
      by_cases hlt : k < n
      · have hlt2 : (k : Int) < (n : Int) := by omega
        obtain ⟨g, rfl, hg, hgo, hcs⟩ := HR.out (by omega)
        obtain ⟨c, hc, hgoes⟩ := hcs k hlt
        obtain ⟨T', f', b', rfl, hm, hcall⟩ := hgoes
        have g0 := hsk.cell hg hgo hc
        have e1 := hm.m
        have e2 := hm.c
        have HCALL := Lib.hid hcall
        have HSK := Lib.hid hsk
        have HTK := Lib.hid (take_flat kss k (by rw [← HN.out]; exact hlt))
        have HLK := Lib.hid (flat_le kss k (by rw [← HN.out]; exact hlt))
        clear hcs hcall hsk hc hg hgo
        go_wp2_with fail
        refine (HCALL.out _ _ HSK.out (by have h1 := HLK.out; have h2 := HLEN.out; simp only [List.length_append, List.length_cons, List.length_nil] at h1 h2 ⊢; omega)).mono ?_
        rintro e w3 ⟨rfl, hs3⟩
        have HS3 := Lib.hid (show St o s stop w0 w3 ((xs ++ [⟨#[84, 101, 109, 112, 108, 97, 116, 101]⟩] ++ ks) ++ (kss.take (k + 1)).flatten) by rw [HTK.out, ← List.append_assoc]; exact hs3)
        clear hs3
        go_wp2_with fail
        go_roundw
        case rel => exact ⟨k + 1, by omega, by go_num, HS3.out⟩
        case measure => simp [intOf]; omega
      · obtain rfl : k = n := by omega
        have HSK := Lib.hid hsk
        have HALL := Lib.hid (show kss.take k = kss by rw [HN.out]; exact List.take_length)
        clear hsk
        go_wp2_with fail
        go_end0
        exact ⟨rfl, by have := HSK.out; rw [HALL.out] at this; simpa using this⟩

set_option maxHeartbeats 2000000 in
theorem tr_FunctionType (o s b : Nat) (stop : ByteArray) (w0 : World) (a : Option Addr) (n cap : Nat) (kss : List (List ByteArray)) (hr : Row o s stop w0 a n kss) (c : Value) (ks : List ByteArray) (hg : Goes o s stop w0 ks c) (hc : w0.cell? ⟨b, 0, none⟩ = some c) (hc1 : w0.cell? ⟨b, 1, none⟩ = some (.slice a n cap)) (hb : b < w0.heap.size) (hbo : b ≠ o) :
    Goes o s stop w0 (⟨#[70, 117, 110, 99, 116, 105, 111, 110, 84, 121, 112, 101]⟩ :: (if (⟨#[70, 117, 110, 99, 116, 105, 111, 110, 84, 121, 112, 101]⟩ : ByteArray) = stop then [] else (ks ++ kss.flatten))) (.iface 67 (.pointer (some ⟨b, 0, none⟩))) := by
  obtain ⟨hn, hn2, hrow⟩ := hr
  have HN := Lib.hid hn
  have HR := Lib.hid hrow
  clear hn hrow
  obtain ⟨T', f', b', rfl, hm, hgo⟩ := hg
  have H := Lib.hid hgo
  clear hgo
  have HC := Lib.hid hc
  have HC1 := Lib.hid hc1
  clear hc hc1
  refine ⟨67, 104, b, rfl, meth_FunctionType, fun w xs hst hlen => ?_⟩
  have HST := Lib.hid hst
  have HB := Lib.hid hb
  have HBO := Lib.hid hbo
  clear hst hb hbo
  rcases bt ((⟨#[70, 117, 110, 99, 116, 105, 111, 110, 84, 121, 112, 101]⟩ : ByteArray).toList == stop.toList) with q | q
  · have HQ := Lib.hid q
    rw [if_pos (eq_stop q)] at hlen ⊢
    clear q
    go_enter Tryz.func104, Tryz.ntmps104
    go_wp2_with fail
    refine (clo_any 67 ⟨#[70, 117, 110, 99, 116, 105, 111, 110, 84, 121, 112, 101]⟩ kindOf_FunctionType o s stop _ xs w0 w HST.out (by simp at hlen; omega) true HQ.out).mono ?_
    rintro e w1 ⟨rfl, hs1⟩
    go_wp2_with fail
    go_end0
    exact ⟨rfl, hs1⟩
  · have HQ := Lib.hid q
    rw [if_neg (ne_stop q)] at hlen ⊢
    clear q
    simp only [List.length_cons] at hlen
    go_enter Tryz.func104, Tryz.ntmps104
    go_wp2_with fail
    refine (clo_any 67 ⟨#[70, 117, 110, 99, 116, 105, 111, 110, 84, 121, 112, 101]⟩ kindOf_FunctionType o s stop _ xs w0 w HST.out (by omega) false HQ.out).mono ?_
    rintro e w1 ⟨rfl, hs1⟩
    have h0 := hs1.cell HB.out HBO.out HC.out
    have e1 := hm.m
    have e2 := hm.c
    have HS1 := Lib.hid hs1
    clear hs1
    rw [List.length_append] at hlen
    go_wp2_with fail
    refine (H.out _ _ HS1.out (by simp; omega)).mono ?_
    rintro e w2 ⟨rfl, hs2⟩
    have h1 := hs2.cell HB.out HBO.out HC1.out
    have HS2 := Lib.hid hs2
    have HLEN := Lib.hid hlen
    clear hs2 hlen h0 e1 e2
    go_wp2_with fail
    go_loopw [26] (fun i wr => ∃ k : Nat, k ≤ n ∧ i = .int .i64 k ∧ St o s stop w0 wr ((xs ++ [⟨#[70, 117, 110, 99, 116, 105, 111, 110, 84, 121, 112, 101]⟩] ++ ks) ++ (kss.take k).flatten)) (fun i _ => n - (intOf i).toNat)
    case atStart => exact ⟨0, Nat.zero_le _, rfl, by simpa using HS2.out⟩
    case round =>
      obtain ⟨k, hk, rfl, hsk⟩ := hrel
      by_cases hlt : k < n
      · have hlt2 : (k : Int) < (n : Int) := by omega
        obtain ⟨g, rfl, hg, hgo, hcs⟩ := HR.out (by omega)
        obtain ⟨c, hc, hgoes⟩ := hcs k hlt
        obtain ⟨T', f', b', rfl, hm, hcall⟩ := hgoes
        have g0 := hsk.cell hg hgo hc
        have e1 := hm.m
        have e2 := hm.c
        have HCALL := Lib.hid hcall
        have HSK := Lib.hid hsk
        have HTK := Lib.hid (take_flat kss k (by rw [← HN.out]; exact hlt))
        have HLK := Lib.hid (flat_le kss k (by rw [← HN.out]; exact hlt))
        clear hcs hcall hsk hc hg hgo
        go_wp2_with fail
        refine (HCALL.out _ _ HSK.out (by have h1 := HLK.out; have h2 := HLEN.out; simp only [List.length_append, List.length_cons, List.length_nil] at h1 h2 ⊢; omega)).mono ?_
        rintro e w3 ⟨rfl, hs3⟩
        have HS3 := Lib.hid (show St o s stop w0 w3 ((xs ++ [⟨#[70, 117, 110, 99, 116, 105, 111, 110, 84, 121, 112, 101]⟩] ++ ks) ++ (kss.take (k + 1)).flatten) by rw [HTK.out, ← List.append_assoc]; exact hs3)
        clear hs3
        go_wp2_with fail
        go_roundw
        case rel => exact ⟨k + 1, by omega, by go_num, HS3.out⟩
        case measure => simp [intOf]; omega
      · obtain rfl : k = n := by omega
        have HSK := Lib.hid hsk
        have HALL := Lib.hid (show kss.take k = kss by rw [HN.out]; exact List.take_length)
        clear hsk
        go_wp2_with fail
        go_end0
        exact ⟨rfl, by have := HSK.out; rw [HALL.out] at this; simpa using this⟩

set_option maxHeartbeats 2000000 in
theorem tr_FunctionTypeNil (o s b : Nat) (stop : ByteArray) (w0 : World) (a : Option Addr) (n cap : Nat) (kss : List (List ByteArray)) (hr : Row o s stop w0 a n kss) (hc : w0.cell? ⟨b, 0, none⟩ = some .nilIface) (hc1 : w0.cell? ⟨b, 1, none⟩ = some (.slice a n cap)) (hb : b < w0.heap.size) (hbo : b ≠ o) :
    Goes o s stop w0 (⟨#[70, 117, 110, 99, 116, 105, 111, 110, 84, 121, 112, 101]⟩ :: (if (⟨#[70, 117, 110, 99, 116, 105, 111, 110, 84, 121, 112, 101]⟩ : ByteArray) = stop then [] else kss.flatten)) (.iface 67 (.pointer (some ⟨b, 0, none⟩))) := by
  obtain ⟨hn, hn2, hrow⟩ := hr
  have HN := Lib.hid hn
  have HR := Lib.hid hrow
  clear hn hrow
  have HC := Lib.hid hc
  have HC1 := Lib.hid hc1
  clear hc hc1
  refine ⟨67, 104, b, rfl, meth_FunctionType, fun w xs hst hlen => ?_⟩
  have HST := Lib.hid hst
  have HB := Lib.hid hb
  have HBO := Lib.hid hbo
  clear hst hb hbo
  rcases bt ((⟨#[70, 117, 110, 99, 116, 105, 111, 110, 84, 121, 112, 101]⟩ : ByteArray).toList == stop.toList) with q | q
  · have HQ := Lib.hid q
    rw [if_pos (eq_stop q)] at hlen ⊢
    clear q
    go_enter Tryz.func104, Tryz.ntmps104
    go_wp2_with fail
    refine (clo_any 67 ⟨#[70, 117, 110, 99, 116, 105, 111, 110, 84, 121, 112, 101]⟩ kindOf_FunctionType o s stop _ xs w0 w HST.out (by simp at hlen; omega) true HQ.out).mono ?_
    rintro e w1 ⟨rfl, hs1⟩
    go_wp2_with fail
    go_end0
    exact ⟨rfl, hs1⟩
  · have HQ := Lib.hid q
    rw [if_neg (ne_stop q)] at hlen ⊢
    clear q
    simp only [List.length_cons] at hlen
    go_enter Tryz.func104, Tryz.ntmps104
    go_wp2_with fail
    refine (clo_any 67 ⟨#[70, 117, 110, 99, 116, 105, 111, 110, 84, 121, 112, 101]⟩ kindOf_FunctionType o s stop _ xs w0 w HST.out (by omega) false HQ.out).mono ?_
    rintro e w1 ⟨rfl, hs1⟩
    have h0 := hs1.cell HB.out HBO.out HC.out
    have h1 := hs1.cell HB.out HBO.out HC1.out
    have HS1 := Lib.hid hs1
    have HLEN := Lib.hid hlen
    clear hs1 hlen
    go_wp2_with fail
    go_loopw [26] (fun i wr => ∃ k : Nat, k ≤ n ∧ i = .int .i64 k ∧ St o s stop w0 wr ((xs ++ [⟨#[70, 117, 110, 99, 116, 105, 111, 110, 84, 121, 112, 101]⟩]) ++ (kss.take k).flatten)) (fun i _ => n - (intOf i).toNat)
    case atStart => exact ⟨0, Nat.zero_le _, rfl, by simpa using HS1.out⟩
    case round =>
      obtain ⟨k, hk, rfl, hsk⟩ := hrel
      by_cases hlt : k < n
      · have hlt2 : (k : Int) < (n : Int) := by omega
        obtain ⟨g, rfl, hg, hgo, hcs⟩ := HR.out (by omega)
        obtain ⟨c, hc, hgoes⟩ := hcs k hlt
        obtain ⟨T', f', b', rfl, hm, hcall⟩ := hgoes
        have g0 := hsk.cell hg hgo hc
        have e1 := hm.m
        have e2 := hm.c
        have HCALL := Lib.hid hcall
        have HSK := Lib.hid hsk
        have HTK := Lib.hid (take_flat kss k (by rw [← HN.out]; exact hlt))
        have HLK := Lib.hid (flat_le kss k (by rw [← HN.out]; exact hlt))
        clear hcs hcall hsk hc hg hgo
        go_wp2_with fail
        refine (HCALL.out _ _ HSK.out (by have h1 := HLK.out; have h2 := HLEN.out; simp only [List.length_append, List.length_cons, List.length_nil] at h1 h2 ⊢; omega)).mono ?_
        rintro e w3 ⟨rfl, hs3⟩
        have HS3 := Lib.hid (show St o s stop w0 w3 ((xs ++ [⟨#[70, 117, 110, 99, 116, 105, 111, 110, 84, 121, 112, 101]⟩]) ++ (kss.take (k + 1)).flatten) by rw [HTK.out, ← List.append_assoc]; exact hs3)
        clear hs3
        go_wp2_with fail
        go_roundw
        case rel => exact ⟨k + 1, by omega, by go_num, HS3.out⟩
        case measure => simp [intOf]; omega
      · obtain rfl : k = n := by omega
        have HSK := Lib.hid hsk
        have HALL := Lib.hid (show kss.take k = kss by rw [HN.out]; exact List.take_length)
        clear hsk
        go_wp2_with fail
        go_end0
        exact ⟨rfl, by have := HSK.out; rw [HALL.out] at this; simpa using this⟩

end Go.Proofs.YtdlhhdhooacogaaGreatDoor

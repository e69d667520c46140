/-
  Traverse over elements of two.
-/
import Derived.Test.YtdlhhdhooacogaaGreatDoorYD
namespace Go.Proofs.YtdlhhdhooacogaaGreatDoor
open Go.RowKit

set_option maxHeartbeats 2000000 in
theorem tr_Qualified (o s b : Nat) (stop : ByteArray) (w0 : World) (c c2 : Value) (ks ks2 : List ByteArray) (hg : Goes o s stop w0 ks c) (hg2 : Goes o s stop w0 ks2 c2) (hc : w0.cell? ⟨b, 0, none⟩ = some c) (hc1 : w0.cell? ⟨b, 1, none⟩ = some c2) (hb : b < w0.heap.size) (hbo : b ≠ o) :
    Goes o s stop w0 (⟨#[81, 117, 97, 108, 105, 102, 105, 101, 100]⟩ :: (if (⟨#[81, 117, 97, 108, 105, 102, 105, 101, 100]⟩ : ByteArray) = stop then [] else (ks ++ ks2))) (.iface 56 (.pointer (some ⟨b, 0, none⟩))) := by
  obtain ⟨T', f', b', rfl, hm, hgo⟩ := hg
  obtain ⟨T2, f2, b2, rfl, hm2, hgo2⟩ := hg2
  have H := Lib.hid hgo
  have H2 := Lib.hid hgo2
  have HC := Lib.hid hc
  have HC1 := Lib.hid hc1
  clear hgo hgo2 hc hc1
  refine ⟨56, 95, b, rfl, meth_Qualified, fun w xs hst hlen => ?_⟩
  have HST := Lib.hid hst
  have HB := Lib.hid hb
  have HBO := Lib.hid hbo
  clear hst hb hbo
  rcases bt ((⟨#[81, 117, 97, 108, 105, 102, 105, 101, 100]⟩ : ByteArray).toList == stop.toList) with q | q
  · have HQ := Lib.hid q
    rw [if_pos (eq_stop q)] at hlen ⊢
    clear q
    go_enter Tryz.func95, Tryz.ntmps95
    go_wp2_with fail
    refine (clo_any 56 ⟨#[81, 117, 97, 108, 105, 102, 105, 101, 100]⟩ kindOf_Qualified o s stop _ xs w0 w HST.out (by simp at hlen; omega) true HQ.out).mono ?_
    rintro e w1 ⟨rfl, hs1⟩
    go_wp2_with fail
    go_end0
    exact ⟨rfl, hs1⟩
  · have HQ := Lib.hid q
    rw [if_neg (ne_stop q)] at hlen ⊢
    clear q
    simp only [List.length_cons] at hlen
    go_enter Tryz.func95, Tryz.ntmps95
    go_wp2_with fail
    refine (clo_any 56 ⟨#[81, 117, 97, 108, 105, 102, 105, 101, 100]⟩ kindOf_Qualified o s stop _ xs w0 w HST.out (by omega) false HQ.out).mono ?_
    rintro e w1 ⟨rfl, hs1⟩
    have h0 := hs1.cell HB.out HBO.out HC.out
    have e1 := hm.m
    have e2 := hm.c
    have HS1 := Lib.hid hs1
    clear hs1
    rw [List.length_append] at hlen
    go_wp2_with fail
    refine (H.out _ _ HS1.out (by simp; omega)).mono ?_
    rintro e w2 ⟨rfl, hs2⟩
    have h1 := hs2.cell HB.out HBO.out HC1.out
    have e3 := hm2.m
    have e4 := hm2.c
    have HS2 := Lib.hid hs2
    clear hs2 h0 e1 e2
    go_wp2_with fail
    refine (H2.out _ _ HS2.out (by simp; omega)).mono ?_
    rintro e w3 ⟨rfl, hs3⟩
    have HS3 := Lib.hid hs3
    clear hs3
    go_wp2_with fail
    go_end0
    exact ⟨rfl, by simpa using HS3.out⟩

set_option maxHeartbeats 2000000 in
theorem tr_Typed (o s b : Nat) (stop : ByteArray) (w0 : World) (c c2 : Value) (ks ks2 : List ByteArray) (hg : Goes o s stop w0 ks c) (hg2 : Goes o s stop w0 ks2 c2) (hc : w0.cell? ⟨b, 0, none⟩ = some c) (hc1 : w0.cell? ⟨b, 1, none⟩ = some c2) (hb : b < w0.heap.size) (hbo : b ≠ o) :
    Goes o s stop w0 (⟨#[84, 121, 112, 101, 100]⟩ :: (if (⟨#[84, 121, 112, 101, 100]⟩ : ByteArray) = stop then [] else (ks ++ ks2))) (.iface 64 (.pointer (some ⟨b, 0, none⟩))) := by
  obtain ⟨T', f', b', rfl, hm, hgo⟩ := hg
  obtain ⟨T2, f2, b2, rfl, hm2, hgo2⟩ := hg2
  have H := Lib.hid hgo
  have H2 := Lib.hid hgo2
  have HC := Lib.hid hc
  have HC1 := Lib.hid hc1
  clear hgo hgo2 hc hc1
  refine ⟨64, 101, b, rfl, meth_Typed, fun w xs hst hlen => ?_⟩
  have HST := Lib.hid hst
  have HB := Lib.hid hb
  have HBO := Lib.hid hbo
  clear hst hb hbo
  rcases bt ((⟨#[84, 121, 112, 101, 100]⟩ : ByteArray).toList == stop.toList) with q | q
  · have HQ := Lib.hid q
    rw [if_pos (eq_stop q)] at hlen ⊢
    clear q
    go_enter Tryz.func101, Tryz.ntmps101
    go_wp2_with fail
    refine (clo_any 64 ⟨#[84, 121, 112, 101, 100]⟩ kindOf_Typed o s stop _ xs w0 w HST.out (by simp at hlen; omega) true HQ.out).mono ?_
    rintro e w1 ⟨rfl, hs1⟩
    go_wp2_with fail
    go_end0
    exact ⟨rfl, hs1⟩
  · have HQ := Lib.hid q
    rw [if_neg (ne_stop q)] at hlen ⊢
    clear q
    simp only [List.length_cons] at hlen
    go_enter Tryz.func101, Tryz.ntmps101
    go_wp2_with fail
    refine (clo_any 64 ⟨#[84, 121, 112, 101, 100]⟩ kindOf_Typed o s stop _ xs w0 w HST.out (by omega) false HQ.out).mono ?_
    rintro e w1 ⟨rfl, hs1⟩
    have h0 := hs1.cell HB.out HBO.out HC.out
    have e1 := hm.m
    have e2 := hm.c
    have HS1 := Lib.hid hs1
    clear hs1
    rw [List.length_append] at hlen
    go_wp2_with fail
    refine (H.out _ _ HS1.out (by simp; omega)).mono ?_
    rintro e w2 ⟨rfl, hs2⟩
    have h1 := hs2.cell HB.out HBO.out HC1.out
    have e3 := hm2.m
    have e4 := hm2.c
    have HS2 := Lib.hid hs2
    clear hs2 h0 e1 e2
    go_wp2_with fail
    refine (H2.out _ _ HS2.out (by simp; omega)).mono ?_
    rintro e w3 ⟨rfl, hs3⟩
    have HS3 := Lib.hid hs3
    clear hs3
    go_wp2_with fail
    go_end0
    exact ⟨rfl, by simpa using HS3.out⟩

set_option maxHeartbeats 2000000 in
theorem tr_ArrayType (o s b : Nat) (stop : ByteArray) (w0 : World) (c c2 : Value) (ks ks2 : List ByteArray) (hg : Goes o s stop w0 ks c) (hg2 : Goes o s stop w0 ks2 c2) (hc : w0.cell? ⟨b, 0, none⟩ = some c) (hc1 : w0.cell? ⟨b, 1, none⟩ = some c2) (hb : b < w0.heap.size) (hbo : b ≠ o) :
    Goes o s stop w0 (⟨#[65, 114, 114, 97, 121, 84, 121, 112, 101]⟩ :: (if (⟨#[65, 114, 114, 97, 121, 84, 121, 112, 101]⟩ : ByteArray) = stop then [] else (ks ++ ks2))) (.iface 94 (.pointer (some ⟨b, 0, none⟩))) := by
  obtain ⟨T', f', b', rfl, hm, hgo⟩ := hg
  obtain ⟨T2, f2, b2, rfl, hm2, hgo2⟩ := hg2
  have H := Lib.hid hgo
  have H2 := Lib.hid hgo2
  have HC := Lib.hid hc
  have HC1 := Lib.hid hc1
  clear hgo hgo2 hc hc1
  refine ⟨94, 134, b, rfl, meth_ArrayType, fun w xs hst hlen => ?_⟩
  have HST := Lib.hid hst
  have HB := Lib.hid hb
  have HBO := Lib.hid hbo
  clear hst hb hbo
  rcases bt ((⟨#[65, 114, 114, 97, 121, 84, 121, 112, 101]⟩ : ByteArray).toList == stop.toList) with q | q
  · have HQ := Lib.hid q
    rw [if_pos (eq_stop q)] at hlen ⊢
    clear q
    go_enter Tryz.func134, Tryz.ntmps134
    go_wp2_with fail
    refine (clo_any 94 ⟨#[65, 114, 114, 97, 121, 84, 121, 112, 101]⟩ kindOf_ArrayType o s stop _ xs w0 w HST.out (by simp at hlen; omega) true HQ.out).mono ?_
    rintro e w1 ⟨rfl, hs1⟩
    go_wp2_with fail
    go_end0
    exact ⟨rfl, hs1⟩
  · have HQ := Lib.hid q
    rw [if_neg (ne_stop q)] at hlen ⊢
    clear q
    simp only [List.length_cons] at hlen
    go_enter Tryz.func134, Tryz.ntmps134
    go_wp2_with fail
    refine (clo_any 94 ⟨#[65, 114, 114, 97, 121, 84, 121, 112, 101]⟩ kindOf_ArrayType o s stop _ xs w0 w HST.out (by omega) false HQ.out).mono ?_
    rintro e w1 ⟨rfl, hs1⟩
    have h0 := hs1.cell HB.out HBO.out HC.out
    have e1 := hm.m
    have e2 := hm.c
    have HS1 := Lib.hid hs1
    clear hs1
    rw [List.length_append] at hlen
    go_wp2_with fail
    refine (H.out _ _ HS1.out (by simp; omega)).mono ?_
    rintro e w2 ⟨rfl, hs2⟩
    have h1 := hs2.cell HB.out HBO.out HC1.out
    have e3 := hm2.m
    have e4 := hm2.c
    have HS2 := Lib.hid hs2
    clear hs2 h0 e1 e2
    go_wp2_with fail
    refine (H2.out _ _ HS2.out (by simp; omega)).mono ?_
    rintro e w3 ⟨rfl, hs3⟩
    have HS3 := Lib.hid hs3
    clear hs3
    go_wp2_with fail
    go_end0
    exact ⟨rfl, by simpa using HS3.out⟩

set_option maxHeartbeats 2000000 in
theorem tr_PtrMem (o s b : Nat) (stop : ByteArray) (w0 : World) (c c2 : Value) (ks ks2 : List ByteArray) (hg : Goes o s stop w0 ks c) (hg2 : Goes o s stop w0 ks2 c2) (hc : w0.cell? ⟨b, 0, none⟩ = some c) (hc1 : w0.cell? ⟨b, 1, none⟩ = some c2) (hb : b < w0.heap.size) (hbo : b ≠ o) :
    Goes o s stop w0 (⟨#[80, 116, 114, 77, 101, 109]⟩ :: (if (⟨#[80, 116, 114, 77, 101, 109]⟩ : ByteArray) = stop then [] else (ks ++ ks2))) (.iface 100 (.pointer (some ⟨b, 0, none⟩))) := by
  obtain ⟨T', f', b', rfl, hm, hgo⟩ := hg
  obtain ⟨T2, f2, b2, rfl, hm2, hgo2⟩ := hg2
  have H := Lib.hid hgo
  have H2 := Lib.hid hgo2
  have HC := Lib.hid hc
  have HC1 := Lib.hid hc1
  clear hgo hgo2 hc hc1
  refine ⟨100, 140, b, rfl, meth_PtrMem, fun w xs hst hlen => ?_⟩
  have HST := Lib.hid hst
  have HB := Lib.hid hb
  have HBO := Lib.hid hbo
  clear hst hb hbo
  rcases bt ((⟨#[80, 116, 114, 77, 101, 109]⟩ : ByteArray).toList == stop.toList) with q | q
  · have HQ := Lib.hid q
    rw [if_pos (eq_stop q)] at hlen ⊢
    clear q
    go_enter Tryz.func140, Tryz.ntmps140
    go_wp2_with fail
    refine (clo_any 100 ⟨#[80, 116, 114, 77, 101, 109]⟩ kindOf_PtrMem o s stop _ xs w0 w HST.out (by simp at hlen; omega) true HQ.out).mono ?_
    rintro e w1 ⟨rfl, hs1⟩
    go_wp2_with fail
    go_end0
    exact ⟨rfl, hs1⟩
  · have HQ := Lib.hid q
    rw [if_neg (ne_stop q)] at hlen ⊢
    clear q
    simp only [List.length_cons] at hlen
    go_enter Tryz.func140, Tryz.ntmps140
    go_wp2_with fail
    refine (clo_any 100 ⟨#[80, 116, 114, 77, 101, 109]⟩ kindOf_PtrMem o s stop _ xs w0 w HST.out (by omega) false HQ.out).mono ?_
    rintro e w1 ⟨rfl, hs1⟩
    have h0 := hs1.cell HB.out HBO.out HC.out
    have e1 := hm.m
    have e2 := hm.c
    have HS1 := Lib.hid hs1
    clear hs1
    rw [List.length_append] at hlen
    go_wp2_with fail
    refine (H.out _ _ HS1.out (by simp; omega)).mono ?_
    rintro e w2 ⟨rfl, hs2⟩
    have h1 := hs2.cell HB.out HBO.out HC1.out
    have e3 := hm2.m
    have e4 := hm2.c
    have HS2 := Lib.hid hs2
    clear hs2 h0 e1 e2
    go_wp2_with fail
    refine (H2.out _ _ HS2.out (by simp; omega)).mono ?_
    rintro e w3 ⟨rfl, hs3⟩
    have HS3 := Lib.hid hs3
    clear hs3
    go_wp2_with fail
    go_end0
    exact ⟨rfl, by simpa using HS3.out⟩

set_option maxHeartbeats 2000000 in
theorem tr_VectorType (o s b : Nat) (stop : ByteArray) (w0 : World) (c c2 : Value) (ks ks2 : List ByteArray) (hg : Goes o s stop w0 ks c) (hg2 : Goes o s stop w0 ks2 c2) (hc : w0.cell? ⟨b, 0, none⟩ = some c) (hc1 : w0.cell? ⟨b, 1, none⟩ = some c2) (hb : b < w0.heap.size) (hbo : b ≠ o) :
    Goes o s stop w0 (⟨#[86, 101, 99, 116, 111, 114, 84, 121, 112, 101]⟩ :: (if (⟨#[86, 101, 99, 116, 111, 114, 84, 121, 112, 101]⟩ : ByteArray) = stop then [] else (ks ++ ks2))) (.iface 97 (.pointer (some ⟨b, 0, none⟩))) := by
  obtain ⟨T', f', b', rfl, hm, hgo⟩ := hg
  obtain ⟨T2, f2, b2, rfl, hm2, hgo2⟩ := hg2
  have H := Lib.hid hgo
  have H2 := Lib.hid hgo2
  have HC := Lib.hid hc
  have HC1 := Lib.hid hc1
  clear hgo hgo2 hc hc1
  refine ⟨97, 137, b, rfl, meth_VectorType, fun w xs hst hlen => ?_⟩
  have HST := Lib.hid hst
  have HB := Lib.hid hb
  have HBO := Lib.hid hbo
  clear hst hb hbo
  rcases bt ((⟨#[86, 101, 99, 116, 111, 114, 84, 121, 112, 101]⟩ : ByteArray).toList == stop.toList) with q | q
  · have HQ := Lib.hid q
    rw [if_pos (eq_stop q)] at hlen ⊢
    clear q
    go_enter Tryz.func137, Tryz.ntmps137
    go_wp2_with fail
    refine (clo_any 97 ⟨#[86, 101, 99, 116, 111, 114, 84, 121, 112, 101]⟩ kindOf_VectorType o s stop _ xs w0 w HST.out (by simp at hlen; omega) true HQ.out).mono ?_
    rintro e w1 ⟨rfl, hs1⟩
    go_wp2_with fail
    go_end0
    exact ⟨rfl, hs1⟩
  · have HQ := Lib.hid q
    rw [if_neg (ne_stop q)] at hlen ⊢
    clear q
    simp only [List.length_cons] at hlen
    go_enter Tryz.func137, Tryz.ntmps137
    go_wp2_with fail
    refine (clo_any 97 ⟨#[86, 101, 99, 116, 111, 114, 84, 121, 112, 101]⟩ kindOf_VectorType o s stop _ xs w0 w HST.out (by omega) false HQ.out).mono ?_
    rintro e w1 ⟨rfl, hs1⟩
    have h0 := hs1.cell HB.out HBO.out HC.out
    have e1 := hm.m
    have e2 := hm.c
    have HS1 := Lib.hid hs1
    clear hs1
    rw [List.length_append] at hlen
    go_wp2_with fail
    refine (H.out _ _ HS1.out (by simp; omega)).mono ?_
    rintro e w2 ⟨rfl, hs2⟩
    have h1 := hs2.cell HB.out HBO.out HC1.out
    have e3 := hm2.m
    have e4 := hm2.c
    have HS2 := Lib.hid hs2
    clear hs2 h0 e1 e2
    go_wp2_with fail
    refine (H2.out _ _ HS2.out (by simp; omega)).mono ?_
    rintro e w3 ⟨rfl, hs3⟩
    have HS3 := Lib.hid hs3
    clear hs3
    go_wp2_with fail
    go_end0
    exact ⟨rfl, by simpa using HS3.out⟩

set_option maxHeartbeats 2000000 in
theorem tr_VendorQualifier (o s b : Nat) (stop : ByteArray) (w0 : World) (c c2 : Value) (ks ks2 : List ByteArray) (hg : Goes o s stop w0 ks c) (hg2 : Goes o s stop w0 ks2 c2) (hc : w0.cell? ⟨b, 0, none⟩ = some c) (hc1 : w0.cell? ⟨b, 1, none⟩ = some c2) (hb : b < w0.heap.size) (hbo : b ≠ o) :
    Goes o s stop w0 (⟨#[86, 101, 110, 100, 111, 114, 81, 117, 97, 108, 105, 102, 105, 101, 114]⟩ :: (if (⟨#[86, 101, 110, 100, 111, 114, 81, 117, 97, 108, 105, 102, 105, 101, 114]⟩ : ByteArray) = stop then [] else (ks ++ ks2))) (.iface 103 (.pointer (some ⟨b, 0, none⟩))) := by
  obtain ⟨T', f', b', rfl, hm, hgo⟩ := hg
  obtain ⟨T2, f2, b2, rfl, hm2, hgo2⟩ := hg2
  have H := Lib.hid hgo
  have H2 := Lib.hid hgo2
  have HC := Lib.hid hc
  have HC1 := Lib.hid hc1
  clear hgo hgo2 hc hc1
  refine ⟨103, 143, b, rfl, meth_VendorQualifier, fun w xs hst hlen => ?_⟩
  have HST := Lib.hid hst
  have HB := Lib.hid hb
  have HBO := Lib.hid hbo
  clear hst hb hbo
  rcases bt ((⟨#[86, 101, 110, 100, 111, 114, 81, 117, 97, 108, 105, 102, 105, 101, 114]⟩ : ByteArray).toList == stop.toList) with q | q
  · have HQ := Lib.hid q
    rw [if_pos (eq_stop q)] at hlen ⊢
    clear q
    go_enter Tryz.func143, Tryz.ntmps143
    go_wp2_with fail
    refine (clo_any 103 ⟨#[86, 101, 110, 100, 111, 114, 81, 117, 97, 108, 105, 102, 105, 101, 114]⟩ kindOf_VendorQualifier o s stop _ xs w0 w HST.out (by simp at hlen; omega) true HQ.out).mono ?_
    rintro e w1 ⟨rfl, hs1⟩
    go_wp2_with fail
    go_end0
    exact ⟨rfl, hs1⟩
  · have HQ := Lib.hid q
    rw [if_neg (ne_stop q)] at hlen ⊢
    clear q
    simp only [List.length_cons] at hlen
    go_enter Tryz.func143, Tryz.ntmps143
    go_wp2_with fail
    refine (clo_any 103 ⟨#[86, 101, 110, 100, 111, 114, 81, 117, 97, 108, 105, 102, 105, 101, 114]⟩ kindOf_VendorQualifier o s stop _ xs w0 w HST.out (by omega) false HQ.out).mono ?_
    rintro e w1 ⟨rfl, hs1⟩
    have h0 := hs1.cell HB.out HBO.out HC.out
    have e1 := hm.m
    have e2 := hm.c
    have HS1 := Lib.hid hs1
    clear hs1
    rw [List.length_append] at hlen
    go_wp2_with fail
    refine (H.out _ _ HS1.out (by simp; omega)).mono ?_
    rintro e w2 ⟨rfl, hs2⟩
    have h1 := hs2.cell HB.out HBO.out HC1.out
    have e3 := hm2.m
    have e4 := hm2.c
    have HS2 := Lib.hid hs2
    clear hs2 h0 e1 e2
    go_wp2_with fail
    refine (H2.out _ _ HS2.out (by simp; omega)).mono ?_
    rintro e w3 ⟨rfl, hs3⟩
    have HS3 := Lib.hid hs3
    clear hs3
    go_wp2_with fail
    go_end0
    exact ⟨rfl, by simpa using HS3.out⟩

set_option maxHeartbeats 2000000 in
theorem tr_TaggedName (o s b : Nat) (stop : ByteArray) (w0 : World) (c c2 : Value) (ks ks2 : List ByteArray) (hg : Goes o s stop w0 ks c) (hg2 : Goes o s stop w0 ks2 c2) (hc : w0.cell? ⟨b, 0, none⟩ = some c) (hc1 : w0.cell? ⟨b, 1, none⟩ = some c2) (hb : b < w0.heap.size) (hbo : b ≠ o) :
    Goes o s stop w0 (⟨#[84, 97, 103, 103, 101, 100, 78, 97, 109, 101]⟩ :: (if (⟨#[84, 97, 103, 103, 101, 100, 78, 97, 109, 101]⟩ : ByteArray) = stop then [] else (ks ++ ks2))) (.iface 128 (.pointer (some ⟨b, 0, none⟩))) := by
  obtain ⟨T', f', b', rfl, hm, hgo⟩ := hg
  obtain ⟨T2, f2, b2, rfl, hm2, hgo2⟩ := hg2
  have H := Lib.hid hgo
  have H2 := Lib.hid hgo2
  have HC := Lib.hid hc
  have HC1 := Lib.hid hc1
  clear hgo hgo2 hc hc1
  refine ⟨128, 167, b, rfl, meth_TaggedName, fun w xs hst hlen => ?_⟩
  have HST := Lib.hid hst
  have HB := Lib.hid hb
  have HBO := Lib.hid hbo
  clear hst hb hbo
  rcases bt ((⟨#[84, 97, 103, 103, 101, 100, 78, 97, 109, 101]⟩ : ByteArray).toList == stop.toList) with q | q
  · have HQ := Lib.hid q
    rw [if_pos (eq_stop q)] at hlen ⊢
    clear q
    go_enter Tryz.func167, Tryz.ntmps167
    go_wp2_with fail
    refine (clo_any 128 ⟨#[84, 97, 103, 103, 101, 100, 78, 97, 109, 101]⟩ kindOf_TaggedName o s stop _ xs w0 w HST.out (by simp at hlen; omega) true HQ.out).mono ?_
    rintro e w1 ⟨rfl, hs1⟩
    go_wp2_with fail
    go_end0
    exact ⟨rfl, hs1⟩
  · have HQ := Lib.hid q
    rw [if_neg (ne_stop q)] at hlen ⊢
    clear q
    simp only [List.length_cons] at hlen
    go_enter Tryz.func167, Tryz.ntmps167
    go_wp2_with fail
    refine (clo_any 128 ⟨#[84, 97, 103, 103, 101, 100, 78, 97, 109, 101]⟩ kindOf_TaggedName o s stop _ xs w0 w HST.out (by omega) false HQ.out).mono ?_
    rintro e w1 ⟨rfl, hs1⟩
    have h0 := hs1.cell HB.out HBO.out HC.out
    have e1 := hm.m
    have e2 := hm.c
    have HS1 := Lib.hid hs1
    clear hs1
    rw [List.length_append] at hlen
    go_wp2_with fail
    refine (H.out _ _ HS1.out (by simp; omega)).mono ?_
    rintro e w2 ⟨rfl, hs2⟩
    have h1 := hs2.cell HB.out HBO.out HC1.out
    have e3 := hm2.m
    have e4 := hm2.c
    have HS2 := Lib.hid hs2
    clear hs2 h0 e1 e2
    go_wp2_with fail
    refine (H2.out _ _ HS2.out (by simp; omega)).mono ?_
    rintro e w3 ⟨rfl, hs3⟩
    have HS3 := Lib.hid hs3
    clear hs3
    go_wp2_with fail
    go_end0
    exact ⟨rfl, by simpa using HS3.out⟩

end Go.Proofs.YtdlhhdhooacogaaGreatDoor

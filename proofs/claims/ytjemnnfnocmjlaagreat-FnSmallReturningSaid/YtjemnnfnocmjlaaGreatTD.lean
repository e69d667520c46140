/-
  FnSmallReturning, walked: true, whatever the texts.
-/
import Derived.Test.YtjemnnfnocmjlaaGreatTF
namespace Go.Proofs.YtjemnnfnocmjlaaGreat
open Go.RowKit

set_option maxHeartbeats 1000000 in
theorem innerTyped (A b nb : Nat) (x : ByteArray) (tv : Value) (w : World) (σ : PS) (inner pr : List Value) (h : PX A w σ inner pr) (he : El A w b #[.iface 63 (.pointer (some ⟨nb, 0, none⟩)), tv] 41) (hn : El A w nb #[.string x] 65) (ho : Others A w nb pr) (hl : pr.length ≤ 100000) (hx : σ.out.length + x.size ≤ 140737488355328) :
    Calls Tryz.prog 134 #[.pointer (some ⟨b, 0, none⟩), .pointer (some ⟨A, 0, none⟩)] w fun e w' => e = .returned (.tuple #[]) ∧ PX A w' (σ.text x.data.toList) inner pr ∧ Below A w w' := by
  have c0 : w.cell? ⟨b, 0, none⟩ = some (.iface 63 (.pointer (some ⟨nb, 0, none⟩))) := he.cell 0
  go_enter Tryz.func134, Tryz.ntmps134
  go_wp2_with fail
  refine (print_nameX A nb x w σ inner pr h hn ho hl hx).mono ?_
  rintro e w1 ⟨rfl, hp, hb⟩
  go_wp2_with fail
  go_end0
  exact ⟨rfl, hp, hb⟩

/-- What a printing of a function with its name leaves. -/
def retSt (pre : PS) (s : ByteArray) (ss : List ByteArray) : PS := argSt (pre.text s.data.toList) ss

theorem joinN_le (ss : List ByteArray) (h : ∀ x ∈ ss, x.size ≤ 2147483647) (hl : ss.length ≤ 1000) : (joinN ss ss.length).size ≤ 1000 * 2147483649 :=
  Nat.le_trans (joinN_size ss h _ (Nat.le_refl _)) (Nat.mul_le_mul_right _ hl)

/-- printArgs where the inner type is the name that the function bears. -/
theorem ret_args (A b bT nb : Nat) (retv argv tv : Value) (flag : Bool) (s : ByteArray) (ss : List ByteArray) (bfn : Nat → Nat) (w : World) (σ : PS) (pr : List Value) (h : PX A w σ [.iface 34 (.pointer (some ⟨bT, 0, none⟩))] pr)
    (he : El A w b #[retv, argv, .bool flag] 44) (hT : El A w bT #[.iface 63 (.pointer (some ⟨nb, 0, none⟩)), tv] 41) (hn : El A w nb #[.string s] 65) (hr : NRow A w argv ss bfn)
    (ho : ∀ k, k < ss.length → Others A w (bfn k) pr) (hon : Others A w nb pr) (hl : pr.length ≤ 100000) (hss : ss.length ≤ 1000) (hep : σ.ep = true) (hs0 : 0 ≤ σ.scopes) (hs1 : σ.scopes ≤ 1000) (hz : σ.out.length + s.size + (joinN ss ss.length).size + 200 ≤ 140737488355328) :
    Calls Tryz.prog 48 #[.pointer (some ⟨b, 0, none⟩), .pointer (some ⟨A, 0, none⟩)] w fun e w' => e = .returned (.tuple #[]) ∧ PX A w' (retSt σ s ss) [] pr ∧ Below A w w' := by
  have hlen : (σ.text s.data.toList).out.length = σ.out.length + s.size := by rw [PS.text_out, List.length_append, Array.length_toList]; rfl
  exact args_plain A b bT retv argv flag σ (σ.text s.data.toList) pr ss bfn w h he hr ho hl (by omega) hep hs0 hs1 (by omega)
    (fun K w1 h1 hb1 => innerTyped A bT nb s tv w1 { σ with kept := K } [] pr h1 (hT.keep hb1) (hn.keep hb1) (hon.keep hb1) hl (by show σ.out.length + _ ≤ _; omega)) rfl

def retText (back s : ByteArray) (ss : List ByteArray) : ByteArray := ((((back ++ ByteArray.mk #[32]) ++ s) ++ ByteArray.mk #[40]) ++ joinN ss ss.length) ++ ByteArray.mk #[41]
def encText (s : ByteArray) (ss : List ByteArray) : ByteArray := ((s ++ ByteArray.mk #[40]) ++ joinN ss ss.length) ++ ByteArray.mk #[41]

theorem retSt_kept (pre : PS) (s : ByteArray) (ss : List ByteArray) (K : List (Nat × Array Value × Nat)) : retSt { pre with kept := K } s ss = { retSt pre s ss with kept := K } := argSt_kept (pre.text s.data.toList) ss K

theorem retSt_keptIs (pre : PS) (s : ByteArray) (ss : List ByteArray) : (retSt pre s ss).kept = pre.kept := stN_keptIs _ ss _

theorem retSt_out (pre : PS) (s : ByteArray) (ss : List ByteArray) : (retSt pre s ss).out = pre.out ++ (s.data.toList ++ ([40] ++ (joinN ss ss.length).data.toList ++ [41])) := by
  rw [retSt, argSt_out, PS.text_out]
  simp

theorem ret_text (back s : ByteArray) (ss : List ByteArray) : (retSt ((PS.start.text back.data.toList).byte 32) s ss).out = (retText back s ss).data.toList := by
  rw [retSt_out, PS.byte_out, PS.text_out, retText, bytes_append, bytes_append, bytes_append, bytes_append, bytes_append]
  show (([] ++ back.data.toList) ++ [32]) ++ _ = ((((back.data.toList ++ [32]) ++ s.data.toList) ++ [40]) ++ (joinN ss ss.length).data.toList) ++ [41]
  simp

theorem enc_text (s : ByteArray) (ss : List ByteArray) : (retSt PS.start s ss).out = (encText s ss).data.toList := by
  rw [retSt_out, encText, bytes_append, bytes_append, bytes_append]
  show [] ++ _ = ((s.data.toList ++ [40]) ++ (joinN ss ss.length).data.toList) ++ [41]
  simp

theorem ret_whole (A bT b nb bR : Nat) (back s : ByteArray) (ss : List ByteArray) (v : Value) (bfn : Nat → Nat) (w : World)
    (hT : El A w bT #[.iface 63 (.pointer (some ⟨nb, 0, none⟩)), .iface 38 (.pointer (some ⟨b, 0, none⟩))] 41) (hF : El A w b #[.iface 67 (.pointer (some ⟨bR, 0, none⟩)), v, .bool false] 44)
    (hN : El A w nb #[.string s] 65) (hB : El A w bR #[.string back] 68) (hR : NRow b w v ss bfn) (h1 : nb ≠ b) (h2 : bR ≠ b) (hbA : b < A) (hss : ss.length ≤ 1000) (hz : back.size + s.size + (joinN ss ss.length).size + 300 ≤ 140737488355328) :
    Whole A w 37 bT PS.start (retText back s ss).data.toList := by
  intro w5 h5 hb5
  have hback : back.data.toList.length = back.size := Array.length_toList
  have key := mTyped_any A bT _ _ w5 PS.start (retSt ((PS.start.text back.data.toList).byte 32) s ss) [] h5 rfl (hT.keep hb5) (fun K w6 h6 hb6 => by
    have hb56 := hb5.trans hb6
    refine print_anyX A _ b _ w6 { PS.start with kept := K } _ [.iface 34 (.pointer (some ⟨bT, 0, none⟩))] [] [] h6 ntFunctionType (hF.keep hb56).node Others.nil (by simp) fun w7 h7 hb7 => ?_
    have hb57 := hb56.trans hb7
    have hoth : ∀ (c : Nat) (wx : World), c ≠ b → Below A w wx → Others A wx c ([] ++ [.iface 38 (.pointer (some ⟨b, 0, none⟩))]) := fun c wx hc hx => Others.nil.snoc (hF.keep hx).node (Ne.symm hc)
    refine ft_ret A b _ _ v w7 { PS.start with kept := K } ({ PS.start with kept := K }.text back.data.toList) { retSt ((PS.start.text back.data.toList).byte 32) s ss with kept := K } _ _ h7 (hF.keep hb57) (by simp) (by rw [PS.text_out, List.length_append, hback]; show 0 + back.size + 100 ≤ _; omega) (fun w8 h8 hb8 => ?_) (fun w8 h8 hb8 => ?_)
    · have hb58 := hb57.trans hb8
      exact print_builtinX A bR back w8 { PS.start with kept := K } _ _ h8 rfl (hB.keep hb58) (hoth _ _ h2 hb58) (by simp) (by show 0 + back.size ≤ _; omega)
    · have hb58 := hb57.trans hb8
      have hrow : NRow A w8 v ss bfn := hR.grow (by omega) (hb58.mono (by omega))
      have hne : ∀ k, k < ss.length → bfn k ≠ b := fun k hk => by
        obtain ⟨ra, rcap, re, rrow, rel⟩ := hR
        have := (rel k hk).lt
        omega
      have := ret_args A b bT nb _ v _ false s ss bfn w8 (({ PS.start with kept := K }.text back.data.toList).byte 32) _ h8 (hF.keep hb58) (hT.keep hb58) (hN.keep hb58) hrow (fun k hk => hoth _ _ (hne k hk) hb58) (hoth _ _ h1 hb58) (by simp) hss rfl (by show (0 : Int) ≤ 1; decide) (by show (1 : Int) ≤ 1000; decide) (by rw [PS.byte_out, PS.text_out, List.length_append, List.length_append, hback]; show 0 + back.size + 1 + _ + _ + _ ≤ _; omega)
      rw [show ((({ PS.start with kept := K } : PS).text back.data.toList).byte 32) = ({ (PS.start.text back.data.toList).byte 32 with kept := K } : PS) from rfl, retSt_kept] at this
      exact this)
  rw [keep_self _ (K := PS.start.kept) (retSt_keptIs _ _ _ : (retSt ((PS.start.text back.data.toList).byte 32) s ss).kept = PS.start.kept)] at key
  exact whole_of (ret_text back s ss) key

theorem enc_whole (A bT b nb : Nat) (retv : Value) (s : ByteArray) (ss : List ByteArray) (v : Value) (bfn : Nat → Nat) (w : World)
    (hT : El A w bT #[.iface 63 (.pointer (some ⟨nb, 0, none⟩)), .iface 38 (.pointer (some ⟨b, 0, none⟩))] 41) (hF : El A w b #[retv, v, .bool true] 44)
    (hN : El A w nb #[.string s] 65) (hR : NRow b w v ss bfn) (h1 : nb ≠ b) (hbA : b < A) (hss : ss.length ≤ 1000) (hz : s.size + (joinN ss ss.length).size + 300 ≤ 140737488355328) :
    Whole A w 37 bT PS.start (encText s ss).data.toList := by
  intro w5 h5 hb5
  have key := mTyped_any A bT _ _ w5 PS.start (retSt PS.start s ss) [] h5 rfl (hT.keep hb5) (fun K w6 h6 hb6 => by
    have hb56 := hb5.trans hb6
    refine print_anyX A _ b _ w6 { PS.start with kept := K } _ [.iface 34 (.pointer (some ⟨bT, 0, none⟩))] [] [] h6 ntFunctionType (hF.keep hb56).node Others.nil (by simp) fun w7 h7 hb7 => ?_
    have hb57 := hb56.trans hb7
    have hoth : ∀ (c : Nat) (wx : World), c ≠ b → Below A w wx → Others A wx c ([] ++ [.iface 38 (.pointer (some ⟨b, 0, none⟩))]) := fun c wx hc hx => Others.nil.snoc (hF.keep hx).node (Ne.symm hc)
    refine ft_local A b _ v w7 { PS.start with kept := K } { retSt PS.start s ss with kept := K } _ _ h7 (hF.keep hb57) rfl rfl (fun w8 h8 hb8 => ?_)
    have hb58 := hb57.trans hb8
    have hrow : NRow A w8 v ss bfn := hR.grow (by omega) (hb58.mono (by omega))
    have hne : ∀ k, k < ss.length → bfn k ≠ b := fun k hk => by
      obtain ⟨ra, rcap, re, rrow, rel⟩ := hR
      have := (rel k hk).lt
      omega
    have := ret_args A b bT nb _ v _ true s ss bfn w8 { PS.start with kept := K } _ h8 (hF.keep hb58) (hT.keep hb58) (hN.keep hb58) hrow (fun k hk => hoth _ _ (hne k hk) hb58) (hoth _ _ h1 hb58) (by simp) hss rfl (by show (0 : Int) ≤ 1; decide) (by show (1 : Int) ≤ 1000; decide) (by show 0 + _ + _ + _ ≤ _; omega)
    rw [retSt_kept] at this
    exact this)
  rw [keep_self _ (K := PS.start.kept) (retSt_keptIs _ _ _ : (retSt PS.start s ss).kept = PS.start.kept)] at key
  exact whole_of (enc_text s ss) key

set_option maxHeartbeats 1000000 in
theorem printReturning_any (back s : ByteArray) (a : Option Addr) (n cap : Nat) (ss : List ByteArray) (w : World) (h : Strs w a n ss) (hn : n ≤ 1000) (hz : back.size + s.size + (joinN ss ss.length).size + 300 ≤ 140737488355328) :
    Calls Tryz.prog 8 #[.string back, .string s, .slice a n cap] w fun e w' => e = .returned (.string (retText back s ss)) ∧ Below w.heap.size w w' := by
  have HS := Lib.hid h
  have hlen := h.len
  clear h
  go_enter Tryz.func8, Tryz.ntmps8
  go_wp2_with fail
  refine (name_any s w).mono ?_
  rintro e w1 ⟨rfl, rfl⟩
  go_wp2_with fail
  refine (builtin_any back _).mono ?_
  rintro e w2 ⟨rfl, rfl⟩
  obtain ⟨e1, e2, hb2⟩ := El.two w #[.string s] 65 #[.string back] 68
  go_wp2_with fail
  have hsz2 : ((w.alloc (.cells #[.string s] 65)).alloc (.cells #[.string back] 68)).heap.size = w.heap.size + 2 := by simp
  generalize (w.alloc (.cells #[.string s] 65)).alloc (.cells #[.string back] 68) = w2 at *
  refine (functionType_any _ _ a n cap ss w2 (HS.out.keep hb2) hn).mono ?_
  rintro e w3 ⟨b, v, bfn, rfl, hf, hr, hbb, hsz, hb3⟩
  have hb4 : Below w3.heap.size w3 (w3.alloc (.cells #[.iface 63 (.pointer (some ⟨w.heap.size, 0, none⟩)), .iface 38 (.pointer (some ⟨b, 0, none⟩))] 41)) := (Below.refl _ _).alloc (Nat.le_refl _) _
  have hsz4 : (w3.alloc (.cells #[.iface 63 (.pointer (some ⟨w.heap.size, 0, none⟩)), .iface 38 (.pointer (some ⟨b, 0, none⟩))] 41)).heap.size = w3.heap.size + 1 := by simp
  have hT : El (w3.heap.size + 1) (w3.alloc (.cells #[.iface 63 (.pointer (some ⟨w.heap.size, 0, none⟩)), .iface 38 (.pointer (some ⟨b, 0, none⟩))] 41)) w3.heap.size #[.iface 63 (.pointer (some ⟨w.heap.size, 0, none⟩)), .iface 38 (.pointer (some ⟨b, 0, none⟩))] 41 := ⟨by omega, heap_alloc_new _ _⟩
  have hbw := (hb2.trans (hb3.mono (by omega))).trans (hb4.mono (by omega))
  have HF := Lib.hid (hf.grow (A' := w3.heap.size + 1) (by omega) hb4)
  have HN := Lib.hid ((e1.grow (A' := w3.heap.size) (by omega) hb3).grow (A' := w3.heap.size + 1) (by omega) hb4)
  have HB := Lib.hid ((e2.grow (A' := w3.heap.size) (by omega) hb3).grow (A' := w3.heap.size + 1) (by omega) hb4)
  have HR := Lib.hid (hr.grow (A' := b) (Nat.le_refl _) (hb4.mono (by omega)))
  have HZ := Lib.hid (And.intro hsz (And.intro hsz2 hsz4))
  clear hf e1 e2 hr hb4 hb2 hb3 hsz hsz2 hsz4
  go_wp2_with fail
  obtain ⟨hsz, hsz2, hsz4⟩ := HZ.out
  clear HZ
  generalize hW : w3.alloc (.cells #[.iface 63 (.pointer (some ⟨w.heap.size, 0, none⟩)), .iface 38 (.pointer (some ⟨b, 0, none⟩))] 41) = w4 at *
  clear hW
  rw [← hsz4] at hT
  rw [← hsz4] at HF HN HB
  have hb4 : b < w4.heap.size := by omega
  have n1 : w.heap.size ≠ b := by omega
  have n2 : w.heap.size + 1 ≠ b := by omega
  have n3 : ss.length ≤ 1000 := by omega
  have hwh := ret_whole w4.heap.size w3.heap.size b w.heap.size (w.heap.size + 1) back s ss v bfn w4 hT HF.out HN.out HB.out HR.out n1 n2 hb4 n3 hz
  refine (ast_any 34 w3.heap.size 37 w4 (retText back s ss).data.toList ntTyped hwh).mono ?_
  rintro e w9 ⟨rfl, hb9⟩
  rw [bytes_mk]
  have hfin := hbw.trans (hb9.mono (by omega))
  clear hbw hb9 HF HN HB HR hT
  go_wp2_with fail
  go_ret
  exact ⟨rfl, hfin⟩

set_option maxHeartbeats 1000000 in
theorem printEnclosing_any (back s : ByteArray) (a : Option Addr) (n cap : Nat) (ss : List ByteArray) (w : World) (h : Strs w a n ss) (hn : n ≤ 1000) (hz : s.size + (joinN ss ss.length).size + 300 ≤ 140737488355328) :
    Calls Tryz.prog 9 #[.string back, .string s, .slice a n cap] w fun e w' => e = .returned (.string (encText s ss)) ∧ Below w.heap.size w w' := by
  have HS := Lib.hid h
  have hlen := h.len
  clear h
  go_enter Tryz.func9, Tryz.ntmps9
  go_wp2_with fail
  refine (builtin_any back w).mono ?_
  rintro e w1 ⟨rfl, rfl⟩
  have hb1 : Below w.heap.size w (w.alloc (.cells #[.string back] 68)) := (Below.refl _ _).alloc (Nat.le_refl _) _
  have hsz1 : (w.alloc (.cells #[.string back] 68)).heap.size = w.heap.size + 1 := by simp
  go_wp2_with fail
  generalize w.alloc (.cells #[.string back] 68) = w1 at *
  refine (functionType_any _ _ a n cap ss w1 (HS.out.keep hb1) hn).mono ?_
  rintro e w3 ⟨b, v, bfn, rfl, hf, hr, hbb, hsz, hb3⟩
  have hfr : w3.frozen? ⟨b, 2, none⟩ = false := Lib.frozen_of_heap hf.heap 2
  have hc2 : w3.cell? ⟨b, 2, none⟩ = some (.bool false) := hf.cell 2
  have hbs : Below b w3 (w3.setCell ⟨b, 2, none⟩ (.bool true)) := (Below.refl _ _).setCell (p := ⟨b, 2, none⟩) (Nat.le_refl b) _
  have hf' : El w3.heap.size (w3.setCell ⟨b, 2, none⟩ (.bool true)) b #[.iface 67 (.pointer (some ⟨w.heap.size, 0, none⟩)), v, .bool true] 44 := ⟨hf.lt, by simpa using heap_setCell_same w3 b 2 _ _ (.bool true) hf.heap⟩
  have hr' := hr.grow (A' := b) (Nat.le_refl _) hbs
  have hbw3 : Below w.heap.size w (w3.setCell ⟨b, 2, none⟩ (.bool true)) := (hb1.trans (hb3.mono (by omega))).trans (hbs.mono (by omega))
  have hszS : (w3.setCell ⟨b, 2, none⟩ (.bool true)).heap.size = w3.heap.size := World.size_setCell _ _ _
  have HF := Lib.hid hf'
  have HR := Lib.hid hr'
  have HZ := Lib.hid (And.intro hsz (And.intro hsz1 hszS))
  clear hf hr hf' hr' hbs hb1 hb3 hsz hsz1 hszS
  go_wp2_with fail
  obtain ⟨hsz, hsz1, hszS⟩ := HZ.out
  clear HZ
  generalize w3.setCell ⟨b, 2, none⟩ (.bool true) = w4 at *
  refine (name_any s w4).mono ?_
  rintro e w5 ⟨rfl, rfl⟩
  obtain ⟨e1, e2, hb2⟩ := El.two w4 #[.string s] 65 #[.iface 63 (.pointer (some ⟨w4.heap.size, 0, none⟩)), .iface 38 (.pointer (some ⟨b, 0, none⟩))] 41
  have HF2 := Lib.hid (HF.out.grow (A' := ((w4.alloc (.cells #[.string s] 65)).alloc (.cells #[.iface 63 (.pointer (some ⟨w4.heap.size, 0, none⟩)), .iface 38 (.pointer (some ⟨b, 0, none⟩))] 41)).heap.size) (by simp; omega) (hb2.mono (by omega)))
  have HR2 := Lib.hid (HR.out.grow (A' := b) (Nat.le_refl _) (hb2.mono (by omega)))
  have hbw := hbw3.trans (hb2.mono (by omega))
  have hszW : ((w4.alloc (.cells #[.string s] 65)).alloc (.cells #[.iface 63 (.pointer (some ⟨w4.heap.size, 0, none⟩)), .iface 38 (.pointer (some ⟨b, 0, none⟩))] 41)).heap.size = w4.heap.size + 2 := by simp
  have HZ := Lib.hid (And.intro hsz (And.intro hsz1 (And.intro hszS hszW)))
  clear HF HR hbw3 hb2 hsz hsz1 hszS hszW
  go_wp2_with fail
  obtain ⟨hsz, hsz1, hszS, hszW⟩ := HZ.out
  clear HZ
  generalize hW : (w4.alloc (.cells #[.string s] 65)).alloc (.cells #[.iface 63 (.pointer (some ⟨w4.heap.size, 0, none⟩)), .iface 38 (.pointer (some ⟨b, 0, none⟩))] 41) = w6 at *
  clear hW
  have n1 : w4.heap.size ≠ b := by omega
  have n2 : b < w6.heap.size := by omega
  have n3 : ss.length ≤ 1000 := by omega
  have hwh := enc_whole w6.heap.size (w4.heap.size + 1) b w4.heap.size _ s ss v bfn w6 e2 HF2.out e1 HR2.out n1 n2 n3 hz
  refine (ast_any 34 (w4.heap.size + 1) 37 w6 (encText s ss).data.toList ntTyped hwh).mono ?_
  rintro e w9 ⟨rfl, hb9⟩
  rw [bytes_mk]
  have hfin := hbw.trans (hb9.mono (by omega))
  clear hbw hb9 HF2 HR2 e1 e2
  go_wp2_with fail
  go_ret
  exact ⟨rfl, hfin⟩

section
variable (back s : ByteArray) (a : Option Addr) (n cap : Nat) (ss : List ByteArray) (w : World)

set_option maxHeartbeats 1000000 in
theorem lawRet_back (h1 : 2147483647 < back.size) (h2 : back.size ≤ maxLen) : Calls Tryz.prog 3 #[.string back, .string s, .slice a n cap] w (Yes w) := by
  unfold maxLen at h2
  go_enter Tryz.func3, Tryz.ntmps3
  go_wp2_with fail
  go_ret
  exact ⟨rfl, Below.refl _ _⟩

set_option maxHeartbeats 1000000 in
theorem lawRet_s (h0 : back.size ≤ 2147483647) (h1 : 2147483647 < s.size) (h2 : s.size ≤ maxLen) : Calls Tryz.prog 3 #[.string back, .string s, .slice a n cap] w (Yes w) := by
  unfold maxLen at h2
  go_enter Tryz.func3, Tryz.ntmps3
  go_wp2_with fail
  go_ret
  exact ⟨rfl, Below.refl _ _⟩

set_option maxHeartbeats 1000000 in
theorem lawRet_fits (h0 : back.size ≤ 2147483647) (h1 : s.size ≤ 2147483647) (hf : Calls Tryz.prog 5 #[.slice a n cap] w fun e w' => e = .returned (.bool false) ∧ w = w') : Calls Tryz.prog 3 #[.string back, .string s, .slice a n cap] w (Yes w) := by
  have HF := Lib.hid hf
  clear hf
  go_enter Tryz.func3, Tryz.ntmps3
  go_wp2_with fail
  refine HF.out.mono ?_
  rintro e w1 ⟨rfl, rfl⟩
  go_wp2_with fail
  go_ret
  exact ⟨rfl, Below.refl _ _⟩

set_option maxRecDepth 100000 in
set_option maxHeartbeats 4000000 in
theorem lawRet_main (h0 : back.size ≤ 2147483647) (h1 : s.size ≤ 2147483647) (h3 : n ≤ 2147483647) (hst : Strs w a n ss) (hall : ∀ x ∈ ss, x.size ≤ 2147483647) (hf : Calls Tryz.prog 5 #[.slice a n cap] w fun e w' => e = .returned (.bool true) ∧ w = w') : Calls Tryz.prog 3 #[.string back, .string s, .slice a n cap] w (Yes w) := by
  have HF := Lib.hid hf
  have HS := Lib.hid hst
  have hlen := hst.len
  have HA := Lib.hid hall
  clear hf hst hall
  go_enter Tryz.func3, Tryz.ntmps3
  go_wp2_with fail
  refine HF.out.mono ?_
  rintro e w1 ⟨rfl, rfl⟩
  go_wp2_with fail
  refine (list_any a n cap ss w HS.out (by omega) HA.out).mono ?_
  rintro e w3 ⟨t, ok, rfl, hok, rfl⟩
  cases ok
  · go_wp2_with fail
    go_ret
    exact ⟨rfl, Below.refl _ _⟩
  obtain ⟨hn2, rfl⟩ := hok rfl
  clear hok
  by_cases hs0 : s = ⟨#[]⟩
  · subst hs0
    generalize joinN ss n = Y
    go_wp2_with fail
    go_ret
    exact ⟨rfl, Below.refl _ _⟩
  have hse := isEmpty_no hs0
  have hj := joinN_le ss HA.out (by omega)
  have hjn : joinN ss n = joinN ss ss.length := by rw [hlen]
  rw [hjn]
  have hq1 := str_same (a := ((((back ++ ByteArray.mk #[32]) ++ s) ++ ByteArray.mk #[40]) ++ joinN ss ss.length) ++ ByteArray.mk #[41]) rfl
  have hq2 := str_same (a := ((s ++ ByteArray.mk #[40]) ++ joinN ss ss.length) ++ ByteArray.mk #[41]) rfl
  have HR1 := Lib.hid (fun w0 h => printReturning_any back s a n cap ss w0 h (by omega) (by omega))
  have HR2 := Lib.hid (fun w0 h => printEnclosing_any back s a n cap ss w0 h (by omega) (by omega))
  rw [show retText back s ss = ((((back ++ ByteArray.mk #[32]) ++ s) ++ ByteArray.mk #[40]) ++ joinN ss ss.length) ++ ByteArray.mk #[41] from rfl] at HR1
  rw [show encText s ss = ((s ++ ByteArray.mk #[40]) ++ joinN ss ss.length) ++ ByteArray.mk #[41] from rfl] at HR2
  generalize joinN ss ss.length = Y at *
  go_wp2_with fail
  refine (clean_any back w (by omega)).mono ?_
  rintro e w4 ⟨c, rfl, rfl⟩
  cases c
  · go_wp2_with fail
    go_ret
    exact ⟨rfl, Below.refl _ _⟩
  go_wp2_with fail
  refine (HR1.out w HS.out).mono ?_
  rintro e w5 ⟨rfl, hb5⟩
  go_wp2_with fail
  refine (HR2.out w5 (HS.out.keep hb5)).mono ?_
  rintro e w6 ⟨rfl, hb6⟩
  have hfin := hb5.trans (hb6.mono hb5.size)
  clear hb5 hb6
  go_wp2_with fail
  go_ret
  exact ⟨rfl, hfin⟩

end

theorem lawRet_any (back : ByteArray) (hb : back.size ≤ maxLen) (s : ByteArray) (hs : s.size ≤ maxLen) (a : Option Addr) (n cap : Nat) (ss : List ByteArray) {w0 : World} (h : StrArg w0 a n cap ss) (w : World) (hw : w = w0 := by rfl) :
    Calls Tryz.prog 3 #[.string back, .string s, .slice a n cap] w (Yes w) := by
  subst hw
  by_cases h1 : 2147483647 < back.size
  · exact lawRet_back back s a n cap w h1 hb
  by_cases h2 : 2147483647 < s.size
  · exact lawRet_s back s a n cap w (by omega) h2 hs
  have hfit := fits_is a n cap ss w h.strs h.len h.sizes
  by_cases g1 : (decide (n ≤ 2147483647) && fitsB ss) = false
  · exact lawRet_fits back s a n cap w (by omega) (by omega) (hfit false g1.symm)
  have g1' : (decide (n ≤ 2147483647) && fitsB ss) = true := by simpa using g1
  have hn1 := of_decide_eq_true (Bool.and_eq_true _ _ ▸ g1').1
  exact lawRet_main back s a n cap ss w (by omega) (by omega) hn1 h.strs (fitsB_all (Bool.and_eq_true _ _ ▸ g1').2) (hfit true g1'.symm)

end Go.Proofs.YtjemnnfnocmjlaaGreat

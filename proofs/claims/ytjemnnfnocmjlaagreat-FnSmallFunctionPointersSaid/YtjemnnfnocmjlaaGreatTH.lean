/-
  FnSmallFunctionPointers, walked: true, whatever the texts and the number.
-/
import Derived.Test.YtjemnnfnocmjlaaGreatTG
namespace Go.Proofs.YtjemnnfnocmjlaaGreat
open Go.RowKit

theorem and_small (a : Int) : 0 ≤ bits .and .i64 a 1073741823 ∧ bits .and .i64 a 1073741823 ≤ 1073741823 := by
  have h : (BitVec.ofInt 64 a &&& BitVec.ofInt 64 1073741823).toNat ≤ 1073741823 := by
    rw [BitVec.toNat_and]
    exact Nat.and_le_right
  have e : bits .and .i64 a 1073741823 = IntKind.i64.wrap ((BitVec.ofInt 64 a &&& BitVec.ofInt 64 1073741823).toNat : Int) := rfl
  rw [e, IntKind.wrap_i64]
  generalize (BitVec.ofInt 64 a &&& BitVec.ofInt 64 1073741823).toNat = n at *
  omega

/-- A number from 0 on, less than m. -/
def SmallN (m : Int) (w : World) (e : Ending) (w' : World) : Prop := ∃ k : Nat, (k : Int) < m ∧ e = .returned (.int .i64 k) ∧ w = w'

set_option maxHeartbeats 1000000 in
theorem cxxOf_any (n m : Int) (w : World) (h0 : 0 < m) (h1 : m ≤ 2147483647) : Calls Tryz.prog 10 #[.int .i64 n, .int .i64 m] w (SmallN m w) := by
  obtain ⟨b0, b1⟩ := and_small n
  have hm0 : (m == 0) = false := by simp; omega
  go_enter Tryz.func10, Tryz.ntmps10
  go_wp2_with fail
  go_ret
  generalize bits .and .i64 n 1073741823 = x at *
  have l0 := Int.emod_nonneg x (show m ≠ 0 by omega)
  have l1 := Int.emod_lt_of_pos x h0
  refine ⟨(x % m).toNat, by omega, ?_, rfl⟩
  show Ending.returned (.int .i64 (x % m)) = _
  rw [Int.toNat_of_nonneg l0]

theorem FtAt.grow {A A' b bR : Nat} {w w' : World} {v : Value} {back : ByteArray} {ss : List ByteArray} {bfn : Nat → Nat} (h : FtAt A w b bR v back ss bfn) (hA : A ≤ A') (hb : Below A w w') : FtAt A' w' b bR v back ss bfn :=
  ⟨h.el.grow hA hb, h.ret.grow hA hb, h.row.grow hA hb, h.lt, h.ltR⟩

/-- The kinds on the way down: the function type, above it pointers. -/
def chT : Nat → TypeId
  | 0 => 38
  | _ + 1 => 45

/-- M pointers above the function type at b, one behind the other. -/
def Chain (A : Nat) (w : World) (b M : Nat) : Prop := ∀ j, j < M → El A w (b + j + 1) #[.iface (chT j) (.pointer (some ⟨b + j, 0, none⟩))] 47

theorem Chain.grow {A A' b M : Nat} {w w' : World} (h : Chain A w b M) (hA : A ≤ A') (hb : Below A w w') : Chain A' w' b M := fun j hj => (h j hj).grow hA hb

theorem print_chain (A b bR m : Nat) (v : Value) (back : ByteArray) (ss : List ByteArray) (bfn : Nat → Nat) (hm : m ≤ 1000) (hss : ss.length ≤ 1000) (j : Nat) (hj : j ≤ m) : ∀ (w : World) (σ : PS) (pr : List Value), PX A w σ (insL (fun _ => 45) (fun i => b + (m + 1) - i) (m + 1 - j)) pr → FtAt A w b bR v back ss bfn → Chain A w b (m + 1) → Above A w (b + j) pr → pr.length + j ≤ 50000 →
    σ.ep = true → σ.llvm = false → 0 ≤ σ.scopes → σ.scopes ≤ 500 → σ.out.length + back.size + (joinN ss ss.length).size + 5000 ≤ 140737488355328 →
    Calls Tryz.prog 39 #[.pointer (some ⟨A, 0, none⟩), .iface (chT j) (.pointer (some ⟨b + j, 0, none⟩))] w fun e w' => e = .returned (.tuple #[]) ∧ PX A w' (argSt (markEnd starW ((σ.text back.data.toList).byte 32) (m + 1)) ss) [] pr ∧ Below A w w' := by
  induction j with
  | zero =>
    intro w σ pr h hf hc ha hl hep hv hs0 hs1 hz
    exact ft_in_PointerType A b bR m _ v back ss bfn w σ pr h hf ha hm (by omega) hss hep hv hs0 hs1 hz
  | succ j ih =>
    intro w σ pr h hf hc ha hl hep hv hs0 hs1 hz
    have he := hc j (by omega)
    refine print_anyX A _ (b + j + 1) _ w σ _ _ [] pr h ntPointerType he.node ha.others (by omega) fun w1 h1 hb1 => ?_
    refine gonePointerType A (b + j + 1) _ w1 σ _ _ _ h1 (he.keep hb1) (by rw [insL_len]; omega) fun w2 h2 hb2 => ?_
    have hbb := hb1.trans hb2
    refine ih (by omega) w2 σ _ ?_ (hf.keep hbb) (hc.grow (Nat.le_refl _) hbb) ((ha.keep hbb).snoc (he.keep hbb).node (by omega)) (by simp; omega) hep hv hs0 hs1 hz
    rw [show m + 1 - j = (m + 1 - (j + 1)) + 1 by omega, insL]
    rw [show b + (m + 1) - (m + 1 - (j + 1)) = b + j + 1 by omega]
    exact h2

def starsL : Nat → ByteArray
  | 0 => ⟨#[42]⟩
  | k + 1 => starsL k ++ ⟨#[42]⟩

theorem starsL_size (k : Nat) : (starsL k).size = k + 1 := by
  induction k with
  | zero => rfl
  | succ k ih =>
    rw [starsL, ByteArray.size_append, ih]
    rfl

theorem markSt_stars (σ : PS) (k : Nat) : (markSt starW σ (k + 1)).out = σ.out ++ ([40] ++ (starsL k).data.toList) := by
  induction k with
  | zero =>
    show (σ.out ++ [40]) ++ [42] = _
    simp [starsL]
  | succ k ih =>
    rw [markSt, PS.text_out, ih, starsL, bytes_append]
    show _ ++ [42] = σ.out ++ ([40] ++ ((starsL k).data.toList ++ [42]))
    simp

def fpText (back : ByteArray) (ss : List ByteArray) (k : Nat) : ByteArray := ((((back ++ ByteArray.mk #[32, 40]) ++ starsL k) ++ ByteArray.mk #[41, 40]) ++ joinN ss ss.length) ++ ByteArray.mk #[41]
def frText (back : ByteArray) (ss : List ByteArray) : ByteArray := ((back ++ ByteArray.mk #[32, 40, 38, 41, 40]) ++ joinN ss ss.length) ++ ByteArray.mk #[41]

theorem fp_text (back : ByteArray) (ss : List ByteArray) (k : Nat) : (argSt (markEnd starW ((PS.start.text back.data.toList).byte 32) (k + 1)) ss).out = (fpText back ss k).data.toList := by
  rw [argSt_out, show (markEnd starW ((PS.start.text back.data.toList).byte 32) (k + 1)).out = (markSt starW ((PS.start.text back.data.toList).byte 32) (k + 1)).out ++ [41] from rfl, markSt_stars, PS.byte_out, PS.text_out, fpText, bytes_append, bytes_append, bytes_append, bytes_append, bytes_append]
  show (((([] ++ back.data.toList) ++ [32]) ++ _) ++ [41]) ++ _ = ((((back.data.toList ++ [32, 40]) ++ (starsL k).data.toList) ++ [41, 40]) ++ (joinN ss ss.length).data.toList) ++ [41]
  simp

theorem fr_text (back : ByteArray) (ss : List ByteArray) : (argSt (markEnd ampW ((PS.start.text back.data.toList).byte 32) 1) ss).out = (frText back ss).data.toList := by
  rw [argSt_out, show (markEnd ampW ((PS.start.text back.data.toList).byte 32) 1).out = (((PS.start.text back.data.toList).byte 32).out ++ [40] ++ [38]) ++ [41] from rfl, PS.byte_out, PS.text_out, frText, bytes_append, bytes_append, bytes_append]
  show ((((([] ++ back.data.toList) ++ [32]) ++ [40]) ++ [38]) ++ [41]) ++ _ = ((back.data.toList ++ [32, 40, 38, 41, 40]) ++ (joinN ss ss.length).data.toList) ++ [41]
  simp

theorem ftAt_of {b bR : Nat} {w : World} {v : Value} {back : ByteArray} {ss : List ByteArray} {bfn : Nat → Nat} (he : El w.heap.size w b #[.iface 67 (.pointer (some ⟨bR, 0, none⟩)), v, .bool false] 44) (hr : NRow b w v ss bfn) (hret : El w.heap.size w bR #[.string back] 68) (hlt : bR < b) : FtAt w.heap.size w b bR v back ss bfn := by
  refine ⟨he, hret, hr.grow (Nat.le_of_lt he.lt) (Below.refl _ _), fun k hk => ?_, hlt⟩
  obtain ⟨_, _, _, _, rel⟩ := hr
  exact (rel k hk).lt

set_option maxHeartbeats 1000000 in
theorem printFp_any (back : ByteArray) (a : Option Addr) (n cap : Nat) (ss : List ByteArray) (k : Nat) (w : World) (h : Strs w a n ss) (hn : n ≤ 1000) (hk : k < 1000) (hz : back.size + (joinN ss ss.length).size + 6000 ≤ 140737488355328) :
    Calls Tryz.prog 11 #[.string back, .slice a n cap, .int .i64 k] w fun e w' => e = .returned (.string (fpText back ss k)) ∧ Below w.heap.size w w' := by
  have HS := Lib.hid h
  have hlen := h.len
  clear h
  go_enter Tryz.func11, Tryz.ntmps11
  go_wp2_with fail
  refine (builtin_any back w).mono ?_
  rintro e w1 ⟨rfl, rfl⟩
  have hb1 : Below w.heap.size w (w.alloc (.cells #[.string back] 68)) := (Below.refl _ _).alloc (Nat.le_refl _) _
  have hE : El (w.heap.size + 1) (w.alloc (.cells #[.string back] 68)) w.heap.size #[.string back] 68 := ⟨by omega, heap_alloc_new _ _⟩
  have hsz1 : (w.alloc (.cells #[.string back] 68)).heap.size = w.heap.size + 1 := by simp
  have HZ := Lib.hid hsz1
  clear hsz1
  go_wp2_with fail
  generalize w.alloc (.cells #[.string back] 68) = w1 at *
  refine (functionType_any _ _ a n cap ss w1 (HS.out.keep hb1) hn).mono ?_
  rintro e w3 ⟨b, v, bfn, rfl, hf, hr, hbb, hsz, hb3⟩
  have hsz1 := HZ.out
  have hE3 := hE.grow (A' := w3.heap.size) (by omega) (hb3.mono (by omega))
  have hft := ftAt_of hf hr hE3 (by omega)
  have hb4 : Below w3.heap.size w3 (w3.alloc (.cells #[.iface 38 (.pointer (some ⟨b, 0, none⟩))] 47)) := (Below.refl _ _).alloc (Nat.le_refl _) _
  have hft4 := hft.grow (A' := (w3.alloc (.cells #[.iface 38 (.pointer (some ⟨b, 0, none⟩))] 47)).heap.size) (by simp) hb4
  have hch : Chain (w3.alloc (.cells #[.iface 38 (.pointer (some ⟨b, 0, none⟩))] 47)).heap.size (w3.alloc (.cells #[.iface 38 (.pointer (some ⟨b, 0, none⟩))] 47)) b 1 := fun j hj => by
    obtain rfl : j = 0 := by omega
    rw [show b + 0 + 1 = w3.heap.size by omega]
    exact ⟨by simp, heap_alloc_new _ _⟩
  have hbw := (hb1.trans (hb3.mono (by omega))).trans (hb4.mono (by omega))
  have HI := Lib.hid (And.intro hft4 (And.intro hch hbw))
  have HZ2 := Lib.hid (And.intro hsz (show (w3.alloc (.cells #[.iface 38 (.pointer (some ⟨b, 0, none⟩))] 47)).heap.size = w3.heap.size + 1 by simp))
  clear hf hr hb3 hE hE3 hft hb4 hft4 hch hbw hsz hsz1 HZ hb1
  go_wp2_with fail
  obtain ⟨hsz, hszW⟩ := HZ2.out
  generalize w3.alloc (.cells #[.iface 38 (.pointer (some ⟨b, 0, none⟩))] 47) = w4 at *
  have HZ3 := Lib.hid (And.intro hsz hszW)
  clear hsz hszW HZ2
  go_loopw [7, 8] (fun u i wr => ∃ j : Nat, j ≤ k ∧ i = .int .i64 j ∧ (∃ p, u = .iface 45 (.pointer (some ⟨p, 0, none⟩)) ∧ p = b + (j + 1)) ∧ wr.heap.size = b + j + 2 ∧ FtAt wr.heap.size wr b w.heap.size v back ss bfn ∧ Chain wr.heap.size wr b (j + 1) ∧ Below w.heap.size w wr) (fun _ i _ => k - (intOf i).toNat)
  case atStart =>
    have := HZ3.out
    exact ⟨0, Nat.zero_le _, rfl, ⟨_, rfl, by omega⟩, by omega, HI.out.1, HI.out.2.1, HI.out.2.2⟩
  case round =>
    obtain ⟨j, hj, rfl, ⟨p, rfl, hp⟩, hs, hft, hch, hbw⟩ := hrel
    clear HI HZ3
    by_cases hlt : j < k
    · have hb5 : Below wr.heap.size wr (wr.alloc (.cells #[.iface 45 (.pointer (some ⟨p, 0, none⟩))] 47)) := (Below.refl _ _).alloc (Nat.le_refl _) _
      have hsz5 : (wr.alloc (.cells #[.iface 45 (.pointer (some ⟨p, 0, none⟩))] 47)).heap.size = wr.heap.size + 1 := by simp
      have hft5 := hft.grow (A' := (wr.alloc (.cells #[.iface 45 (.pointer (some ⟨p, 0, none⟩))] 47)).heap.size) (by simp) hb5
      have hch5 : Chain (wr.alloc (.cells #[.iface 45 (.pointer (some ⟨p, 0, none⟩))] 47)).heap.size (wr.alloc (.cells #[.iface 45 (.pointer (some ⟨p, 0, none⟩))] 47)) b (j + 1 + 1) := fun i hi => by
        by_cases hi2 : i < j + 1
        · exact (hch i hi2).grow (by simp) hb5
        · obtain rfl : i = j + 1 := by omega
          rw [show b + (j + 1) + 1 = wr.heap.size by omega, ← hp]
          exact ⟨by simp, heap_alloc_new _ _⟩
      have HN := Lib.hid (And.intro hft5 (And.intro hch5 (hbw.trans (hb5.mono hbw.size))))
      have HZ4 := Lib.hid (And.intro hs (And.intro hsz5 hp))
      clear hft hch hbw hb5 hft5 hch5 hs hsz5 hp
      go_wp2_with fail
      go_roundw
      case rel =>
        obtain ⟨hs, hsz5, hp⟩ := HZ4.out
        exact ⟨j + 1, by omega, by go_num, ⟨_, rfl, by omega⟩, by omega, HN.out.1, HN.out.2.1, HN.out.2.2⟩
      case measure => simp [intOf]; omega
    · obtain rfl : j = k := by omega
      have HZ4 := Lib.hid (And.intro hs hp)
      have HN := Lib.hid (And.intro hft hch)
      clear hft hch hs hp
      go_wp2_with fail
      obtain ⟨hs, hp⟩ := HZ4.out
      obtain ⟨hft, hch⟩ := HN.out
      have hroot := hch j (by omega)
      rw [show b + j + 1 = p by omega] at hroot
      have hwh : Whole wr.heap.size wr 58 p PS.start (fpText back ss j).data.toList := fun w5 h5 hb5 => by
        refine whole_of (fp_text back ss j) (gonePointerType wr.heap.size p _ w5 PS.start _ [] [] (PX.start h5) (hroot.keep hb5) (by simp) fun w6 h6 hb6 => ?_)
        have hb56 := hb5.trans hb6
        refine print_chain wr.heap.size b w.heap.size j v back ss bfn (by omega) (by omega) j (Nat.le_refl _) w6 PS.start [] ?_ (hft.keep hb56) (hch.grow (Nat.le_refl _) hb56) Above.nil (by simp; omega) rfl rfl (by decide) (by decide) (by show 0 + _ + _ + _ ≤ _; omega)
        rw [show j + 1 - j = 0 + 1 by omega, insL, show b + (j + 1) - 0 = p by omega]
        exact h6
      refine (ast_any 45 p 58 wr (fpText back ss j).data.toList ntPointerType hwh).mono ?_
      rintro e w9 ⟨rfl, hb9⟩
      rw [bytes_mk]
      have hfin := hbw.trans (hb9.mono hbw.size)
      clear hbw hb9 hroot hft hch HN HZ4 hs hp hwh
      go_wp2_with fail
      go_ret
      exact ⟨rfl, hfin⟩

set_option maxHeartbeats 1000000 in
theorem printFr_any (back : ByteArray) (a : Option Addr) (n cap : Nat) (ss : List ByteArray) (w : World) (h : Strs w a n ss) (hn : n ≤ 1000) (hz : back.size + (joinN ss ss.length).size + 6000 ≤ 140737488355328) :
    Calls Tryz.prog 12 #[.string back, .slice a n cap] w fun e w' => e = .returned (.string (frText back ss)) ∧ Below w.heap.size w w' := by
  have HS := Lib.hid h
  have hlen := h.len
  clear h
  go_enter Tryz.func12, Tryz.ntmps12
  go_wp2_with fail
  refine (builtin_any back w).mono ?_
  rintro e w1 ⟨rfl, rfl⟩
  have hb1 : Below w.heap.size w (w.alloc (.cells #[.string back] 68)) := (Below.refl _ _).alloc (Nat.le_refl _) _
  have hE : El (w.heap.size + 1) (w.alloc (.cells #[.string back] 68)) w.heap.size #[.string back] 68 := ⟨by omega, heap_alloc_new _ _⟩
  have hsz1 : (w.alloc (.cells #[.string back] 68)).heap.size = w.heap.size + 1 := by simp
  have HZ := Lib.hid hsz1
  clear hsz1
  go_wp2_with fail
  generalize w.alloc (.cells #[.string back] 68) = w1 at *
  refine (functionType_any _ _ a n cap ss w1 (HS.out.keep hb1) hn).mono ?_
  rintro e w3 ⟨b, v, bfn, rfl, hf, hr, hbb, hsz, hb3⟩
  have hsz1 := HZ.out
  have hE3 := hE.grow (A' := w3.heap.size) (by omega) (hb3.mono (by omega))
  have hft := ftAt_of hf hr hE3 (by omega)
  have hb4 : Below w3.heap.size w3 (w3.alloc (.cells #[.iface 38 (.pointer (some ⟨b, 0, none⟩))] 49)) := (Below.refl _ _).alloc (Nat.le_refl _) _
  have hft4 := hft.grow (A' := (w3.alloc (.cells #[.iface 38 (.pointer (some ⟨b, 0, none⟩))] 49)).heap.size) (by simp) hb4
  have hroot : El (w3.alloc (.cells #[.iface 38 (.pointer (some ⟨b, 0, none⟩))] 49)).heap.size (w3.alloc (.cells #[.iface 38 (.pointer (some ⟨b, 0, none⟩))] 49)) w3.heap.size #[.iface 38 (.pointer (some ⟨b, 0, none⟩))] 49 := ⟨by simp, heap_alloc_new _ _⟩
  have hbw := (hb1.trans (hb3.mono (by omega))).trans (hb4.mono (by omega))
  have HI := Lib.hid (And.intro hft4 (And.intro hroot hbw))
  clear hf hr hb3 hE hE3 hft hb4 hft4 hroot hbw hsz hsz1 HZ hb1
  go_wp2_with fail
  generalize w3.alloc (.cells #[.iface 38 (.pointer (some ⟨b, 0, none⟩))] 49) = wr at *
  obtain ⟨hft, hroot, hbw⟩ := HI.out
  have hwh : Whole wr.heap.size wr 63 w3.heap.size PS.start (frText back ss).data.toList := fun w5 h5 hb5 => by
    refine whole_of (fr_text back ss) (goneReferenceType wr.heap.size w3.heap.size _ w5 PS.start _ [] [] (PX.start h5) (hroot.keep hb5) (by simp) fun w6 h6 hb6 => ?_)
    have hb56 := hb5.trans hb6
    exact ft_in_ReferenceType wr.heap.size b w.heap.size 0 (fun _ => w3.heap.size) v back ss bfn w6 PS.start [] h6 (hft.keep hb56) Above.nil (by omega) (by simp) (by omega) rfl rfl (by decide) (by decide) (by show 0 + _ + _ + _ ≤ _; omega)
  refine (ast_any 48 w3.heap.size 63 wr (frText back ss).data.toList ntReferenceType hwh).mono ?_
  rintro e w9 ⟨rfl, hb9⟩
  rw [bytes_mk]
  have hfin := hbw.trans (hb9.mono hbw.size)
  clear hbw hb9 hroot hft HI hwh
  go_wp2_with fail
  go_ret
  exact ⟨rfl, hfin⟩

theorem joinN_le (ss : List ByteArray) (h : ∀ x ∈ ss, x.size ≤ 2147483647) (hl : ss.length ≤ 1000) : (joinN ss ss.length).size ≤ 1000 * 2147483649 :=
  Nat.le_trans (joinN_size ss h _ (Nat.le_refl _)) (Nat.mul_le_mul_right _ hl)

section
variable (back : ByteArray) (a : Option Addr) (n cap : Nat) (ss : List ByteArray) (more : Int) (w : World)

set_option maxHeartbeats 1000000 in
theorem lawFp_back (h1 : 2147483647 < back.size) (h2 : back.size ≤ maxLen) : Calls Tryz.prog 4 #[.string back, .slice a n cap, .int .i64 more] w (Yes w) := by
  unfold maxLen at h2
  go_enter Tryz.func4, Tryz.ntmps4
  go_wp2_with fail
  go_ret
  exact ⟨rfl, Below.refl _ _⟩

set_option maxHeartbeats 1000000 in
theorem lawFp_fits (h0 : back.size ≤ 2147483647) (hf : Calls Tryz.prog 5 #[.slice a n cap] w fun e w' => e = .returned (.bool false) ∧ w = w') : Calls Tryz.prog 4 #[.string back, .slice a n cap, .int .i64 more] w (Yes w) := by
  have HF := Lib.hid hf
  clear hf
  go_enter Tryz.func4, Tryz.ntmps4
  go_wp2_with fail
  refine HF.out.mono ?_
  rintro e w1 ⟨rfl, rfl⟩
  go_wp2_with fail
  go_ret
  exact ⟨rfl, Below.refl _ _⟩

set_option maxRecDepth 100000 in
set_option maxHeartbeats 4000000 in
theorem lawFp_main (h0 : back.size ≤ 2147483647) (h3 : n ≤ 2147483647) (hst : Strs w a n ss) (hall : ∀ x ∈ ss, x.size ≤ 2147483647) (hf : Calls Tryz.prog 5 #[.slice a n cap] w fun e w' => e = .returned (.bool true) ∧ w = w') : Calls Tryz.prog 4 #[.string back, .slice a n cap, .int .i64 more] w (Yes w) := by
  have HF := Lib.hid hf
  have HS := Lib.hid hst
  have hlen := hst.len
  have HA := Lib.hid hall
  clear hf hst hall
  go_enter Tryz.func4, Tryz.ntmps4
  go_wp2_with fail
  refine HF.out.mono ?_
  rintro e w1 ⟨rfl, rfl⟩
  go_wp2_with fail
  refine (list_any a n cap ss w HS.out (by omega) HA.out).mono ?_
  rintro e w3 ⟨t, ok, rfl, hok, rfl⟩
  cases ok
  · go_wp2_with fail
    go_ret
    exact ⟨rfl, Below.refl _ _⟩
  obtain ⟨hn2, rfl⟩ := hok rfl
  clear hok
  have hj := joinN_le ss HA.out (by omega)
  have hjn : joinN ss n = joinN ss ss.length := by rw [hlen]
  rw [hjn]
  have HR1 := Lib.hid (fun k (hk : k < 1000) w0 h => printFp_any back a n cap ss k w0 h (by omega) hk (by omega))
  have HR2 := Lib.hid (fun w0 h => printFr_any back a n cap ss w0 h (by omega) (by omega))
  rw [show frText back ss = ((back ++ ByteArray.mk #[32, 40, 38, 41, 40]) ++ joinN ss ss.length) ++ ByteArray.mk #[41] from rfl] at HR2
  simp only [fpText] at HR1
  generalize joinN ss ss.length = Y at *
  go_wp2_with fail
  refine (clean_any back w (by omega)).mono ?_
  rintro e w4 ⟨c, rfl, rfl⟩
  cases c
  · go_wp2_with fail
    go_ret
    exact ⟨rfl, Below.refl _ _⟩
  go_wp2_with fail
  refine (cxxOf_any more 1000 w (by decide) (by decide)).mono ?_
  rintro e w5 ⟨k, hk, rfl, rfl⟩
  go_wp2_with fail
  go_loop [10, 11] (fun v i => ∃ j : Nat, j ≤ k ∧ i = .int .i64 j ∧ v = .string (starsL j)) (fun _ i => k - (intOf i).toNat)
  case atStart => exact ⟨0, Nat.zero_le _, rfl, rfl⟩
  case round =>
    obtain ⟨j, hj, rfl, rfl⟩ := hrel
    have hsj := starsL_size j
    by_cases hlt : j < k
    · have HST := Lib.hid (show starsL (j + 1) = starsL j ++ ⟨#[42]⟩ from rfl)
      generalize starsL j = Z at *
      go_wp2_with fail
      go_round
      case rel => exact ⟨j + 1, by omega, by go_num, by rw [HST.out]⟩
      case measure => simp [intOf]; omega
    · obtain rfl : j = k := by omega
      have HP := Lib.hid (HR1.out j (by omega))
      clear HR1
      generalize starsL j = Z at *
      have hq1 := str_same (a := ((((back ++ ByteArray.mk #[32, 40]) ++ Z) ++ ByteArray.mk #[41, 40]) ++ Y) ++ ByteArray.mk #[41]) rfl
      have hq2 := str_same (a := ((back ++ ByteArray.mk #[32, 40, 38, 41, 40]) ++ Y) ++ ByteArray.mk #[41]) rfl
      go_wp2_with fail
      refine (HP.out w HS.out).mono ?_
      rintro e w5 ⟨rfl, hb5⟩
      go_wp2_with fail
      refine (HR2.out w5 (HS.out.keep hb5)).mono ?_
      rintro e w6 ⟨rfl, hb6⟩
      have hfin := hb5.trans (hb6.mono hb5.size)
      clear hb5 hb6
      go_wp2_with fail
      go_ret
      exact ⟨rfl, hfin⟩
end

theorem lawFp_any (back : ByteArray) (hb : back.size ≤ maxLen) (a : Option Addr) (n cap : Nat) (ss : List ByteArray) {w0 : World} (h : StrArg w0 a n cap ss) (more : Int) (_wf : (Lit.int .i64 more).wf = true) (w : World) (hw : w = w0 := by rfl) :
    Calls Tryz.prog 4 #[.string back, .slice a n cap, .int .i64 more] w (Yes w) := by
  subst hw
  by_cases h1 : 2147483647 < back.size
  · exact lawFp_back back a n cap more w h1 hb
  have hfit := fits_is a n cap ss w h.strs h.len h.sizes
  by_cases g1 : (decide (n ≤ 2147483647) && fitsB ss) = false
  · exact lawFp_fits back a n cap more w (by omega) (hfit false g1.symm)
  have g1' : (decide (n ≤ 2147483647) && fitsB ss) = true := by simpa using g1
  have hn1 := of_decide_eq_true (Bool.and_eq_true _ _ ▸ g1').1
  exact lawFp_main back a n cap ss more w (by omega) hn1 h.strs (fitsB_all (Bool.and_eq_true _ _ ▸ g1').2) (hfit true g1'.symm)


end Go.Proofs.YtjemnnfnocmjlaaGreat

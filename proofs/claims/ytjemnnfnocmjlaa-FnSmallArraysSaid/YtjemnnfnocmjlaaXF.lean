/-
  FnSmallPointersJoin, walked: true, whatever the text and the number.
-/
import Derived.Test.YtjemnnfnocmjlaaXE
namespace Go.Proofs.Ytjemnnfnocmjlaa
open Go.RowKit

theorem and_small (a : Int) : 0 ≤ bits .and .i64 a 1073741823 ∧ bits .and .i64 a 1073741823 ≤ 1073741823 := by
  have h : (BitVec.ofInt 64 a &&& BitVec.ofInt 64 1073741823).toNat ≤ 1073741823 := by
    rw [BitVec.toNat_and]
    exact Nat.and_le_right
  have e : bits .and .i64 a 1073741823 = IntKind.i64.wrap ((BitVec.ofInt 64 a &&& BitVec.ofInt 64 1073741823).toNat : Int) := rfl
  rw [e, IntKind.wrap_i64]
  generalize (BitVec.ofInt 64 a &&& BitVec.ofInt 64 1073741823).toNat = n at *
  omega

/-- A number from 0 on, less than m. -/
def SmallN (m : Int) (w : World) (e : Ending) (w' : World) : Prop := ∃ k : Nat, (k : Int) < m ∧ e = .returned (.int .i64 k) ∧ w = w'

set_option maxHeartbeats 1000000 in
theorem cxxOf_any (n m : Int) (w : World) (h0 : 0 < m) (h1 : m ≤ 2147483647) : Calls Try.prog 14 #[.int .i64 n, .int .i64 m] w (SmallN m w) := by
  obtain ⟨b0, b1⟩ := and_small n
  have hm0 : (m == 0) = false := by simp; omega
  go_enter Try.func14, Try.ntmps14
  go_wp2_with fail
  go_ret
  generalize bits .and .i64 n 1073741823 = x at *
  have l0 := Int.emod_nonneg x (show m ≠ 0 by omega)
  have l1 := Int.emod_lt_of_pos x h0
  refine ⟨(x % m).toNat, by omega, ?_, rfl⟩
  show Ending.returned (.int .i64 (x % m)) = _
  rw [Int.toNat_of_nonneg l0]

/-- The slice '.slice a n c' reads as n zeros. -/
structure Zeros (w : World) (a : Option Addr) (n : Nat) : Prop where
  cells : 0 < n → ∃ bl off, a = some ⟨bl, off, none⟩ ∧ bl < w.heap.size ∧ ∀ i, i < n → w.cell? ⟨bl, off + i, none⟩ = some (.int .i64 0)

theorem Zeros.keep {w w' : World} {a : Option Addr} {n : Nat} (h : Zeros w a n) (hb : Below w.heap.size w w') : Zeros w' a n :=
  ⟨fun hn => by
    obtain ⟨bl, off, e, hlt, hc⟩ := h.cells hn
    exact ⟨bl, off, e, Nat.lt_of_lt_of_le hlt hb.size, fun i hi => by rw [hb.cell (p := ⟨bl, off + i, none⟩) hlt]; exact hc i hi⟩⟩

theorem Zeros.ofOwn {w : World} {B n : Nat} {v : Value} (h : w.ownsRow B 3 1 v n (List.replicate n (.int .i64 0))) : ∃ a cap, v = .slice a n cap ∧ Zeros w a n ∧ (a = none → cap = 0) := by
  rcases h.2 with ⟨rfl, rfl⟩ | ⟨g, cap, cur, rfl, hb, hg, r⟩
  · exact ⟨none, 0, rfl, ⟨fun h => by omega⟩, fun _ => rfl⟩
  · refine ⟨_, _, rfl, ⟨fun hn => ⟨g, 0, rfl, lt_of_block hg, fun i hi => ?_⟩⟩, fun e => by simp at e⟩
    rw [Nat.zero_add, h.cellAt i (by omega)]
    simp [hi]

theorem Ptrs.lt {A : Nat} {w : World} {s : ByteArray} {n T f b : Nat} (h : Ptrs A w s n T f b) : b < A := by
  cases n with
  | zero => exact h.2.lt
  | succ n => obtain ⟨_, _, _, _, _, he, _⟩ := h; exact he.lt

/-- The chain does not hang on the bound. -/
theorem Ptrs.grow {A A' : Nat} {w w' : World} {s : ByteArray} {n T f b : Nat} (h : Ptrs A w s n T f b) (hA : A ≤ A') (hb : Below A w w') : Ptrs A' w' s n T f b := by
  induction n generalizing T f b with
  | zero => exact ⟨h.1, by have := h.2.lt; omega, (h.2.keep hb).heap⟩
  | succ n ih =>
    obtain ⟨h1, T', f', b', hlt, he, hc⟩ := h
    exact ⟨h1, T', f', b', hlt, ⟨by have := he.lt; omega, (he.keep hb).heap⟩, ih hc⟩

/-- What 'signs' hands back for n zeros. -/
def SignsMade (s : ByteArray) (n : Nat) (w : World) (e : Ending) (w' : World) : Prop :=
  ∃ T f b, e = .returned (.iface T (.pointer (some ⟨b, 0, none⟩))) ∧ Ptrs w'.heap.size w' s n T f b ∧ Below w.heap.size w w'

set_option maxHeartbeats 1000000 in
theorem signs_zeros (s : ByteArray) (a : Option Addr) (n cap : Nat) (w : World) (h : Zeros w a n) (hn : n ≤ 2000) :
    Calls Try.prog 38 #[.string s, .slice a n cap] w (SignsMade s n w) := by
  have HS := Lib.hid h
  clear h
  go_enter Try.func38, Try.ntmps38
  go_wp2_with fail
  refine (builtin_any s w).mono ?_
  rintro e w1 ⟨rfl, rfl⟩
  go_wp2_with fail
  go_loopw [5, 12] (fun v i wr => ∃ k : Nat, k ≤ n ∧ i = .int .i64 k ∧ ∃ T f b, v = .iface T (.pointer (some ⟨b, 0, none⟩)) ∧ Ptrs wr.heap.size wr s k T f b ∧ Below w.heap.size w wr) (fun _ i _ => n - (intOf i).toNat)
  case atStart =>
    exact ⟨0, Nat.zero_le _, rfl, _, _, w.heap.size, rfl, ⟨⟨rfl, rfl⟩, by simp, heap_alloc_new _ _⟩, (Below.refl _ _).alloc (Nat.le_refl _) _⟩
  case round =>
    obtain ⟨k, hk, rfl, T, f, b, rfl, hp, hbel⟩ := hrel
    by_cases hlt : k < n
    · obtain ⟨bl, off, rfl, hbl, hc⟩ := HS.out.cells (by omega)
      have hc1 : wr.cell? ⟨bl, off + k, none⟩ = some (.int .i64 0) := by rw [hbel.cell (p := ⟨bl, off + k, none⟩) hbl]; exact hc k hlt
      have hnew : Ptrs (wr.alloc (.cells #[.iface T (.pointer (some ⟨b, 0, none⟩))] 109)).heap.size (wr.alloc (.cells #[.iface T (.pointer (some ⟨b, 0, none⟩))] 109)) s (k + 1) 108 140 wr.heap.size :=
        ⟨⟨rfl, rfl⟩, T, f, b, hp.lt, ⟨by simp, heap_alloc_new _ _⟩, hp.grow (by simp) ((Below.refl _ _).alloc (Nat.le_refl _) _)⟩
      have hbn : Below w.heap.size w (wr.alloc (.cells #[.iface T (.pointer (some ⟨b, 0, none⟩))] 109)) := hbel.alloc hbel.size _
      have HN := Lib.hid hnew
      have HB := Lib.hid hbn
      clear hc hp hnew hbn hbel
      go_wp2_with fail
      go_roundw
      case rel => exact ⟨k + 1, by omega, by go_num, _, _, _, rfl, HN.out, HB.out⟩
      case measure => simp [intOf]; omega
    · have ek : k = n := by omega
      rw [ek] at hp
      clear ek
      go_wp2_with fail
      go_ret
      exact ⟨T, f, b, rfl, hp, hbel⟩

/-- The text behind n stars. -/
def starText (s : ByteArray) (n : Nat) : ByteArray := s ++ ⟨(List.replicate n (42 : UInt8)).toArray⟩

set_option maxHeartbeats 1000000 in
theorem printSigns_zeros (s : ByteArray) (a : Option Addr) (n cap : Nat) (w : World) (h : Zeros w a n) (hn : n ≤ 2000) (hl : s.size ≤ 2147483647) :
    Calls Try.prog 30 #[.string s, .slice a n cap] w fun e w' => e = .returned (.string (starText s n)) ∧ Below w.heap.size w w' := by
  have HS := Lib.hid h
  clear h
  go_enter Try.func30, Try.ntmps30
  go_wp2_with fail
  refine (signs_zeros s a n cap w HS.out hn).mono ?_
  rintro e w1 ⟨T, f, b, rfl, hp, hb⟩
  go_wp2_with fail
  refine (ast_any T b f w1 (starText s n).data.toList hp.nodeT (fun w2 h2 hb2 => whole_of (by rw [stars_out, PS.text_out, starText, bytes_append]; rfl) (root_ptrs _ s n T f b w2 PS.start (hp.keep hb2) (PX.start h2) rfl (by omega) (by simp [PS.start]; omega)))).mono ?_
  rintro e w2 ⟨rfl, hb2⟩
  rw [bytes_mk]
  have hfin := hb.trans (hb2.mono hb.size)
  clear hp hb hb2
  go_wp2_with fail
  go_ret
  exact ⟨rfl, hfin⟩

theorem Try.infoInt : (Try.prog.info? 3).map (fun i => (i.zero, i.size, i.bytes)) = some (some (.int .i64 0), 1, 8) := by kernel_rfl

theorem Zeros.src {w : World} {a : Option Addr} {n cap : Nat} (h : Zeros w a n) (hn : a = none → cap = 0) : Src Try.prog 1 41 (.slice a n cap) n (List.replicate n (.int .i64 0)) w := by
  cases a with
  | none =>
    have h0 : n = 0 := by
      rcases Nat.eq_zero_or_pos n with h0 | h0
      · exact h0
      · obtain ⟨_, _, e, _⟩ := h.cells h0
        simp at e
    subst h0
    exact Src.ofNil w Try.underlying41 cap
  | some ad =>
    refine Src.ofSlice w Try.underlying41 ad n cap _ (by simp) (fun j u hu => ?_) (fun u hu => by obtain ⟨_, rfl⟩ := List.mem_replicate.1 hu; rfl)
    have hj : j < n := by have := (List.getElem?_eq_some_iff.1 hu).1; simpa using this
    obtain ⟨bl, off, e, _, hc⟩ := h.cells (by omega)
    simp at e
    subst e
    rw [Addr.add_lit, hc j hj]
    simpa [hj] using hu

set_option maxHeartbeats 1000000 in
theorem lawPointers_s (s : ByteArray) (n : Int) (w : World) (hs : s.size ≤ maxLen) (h1 : 2147483647 < s.size) : Calls Try.prog 10 #[.string s, .int .i64 n] w (Yes w) := by
  unfold maxLen at hs
  go_enter Try.func10, Try.ntmps10
  go_wp2_with fail
  go_ret
  exact ⟨rfl, Below.refl _ _⟩

set_option maxRecDepth 100000 in
set_option maxHeartbeats 2000000 in
theorem lawPointers_main (s : ByteArray) (n : Int) (w : World) (hs : s.size ≤ 2147483647) : Calls Try.prog 10 #[.string s, .int .i64 n] w (Yes w) := by
  obtain ⟨i0, hi, hz0, hz1, hz2⟩ := info_parts Try.infoInt
  go_enter Try.func10, Try.ntmps10
  go_wp2_with fail
  refine (cxxOf_any n 1000 w (by decide) (by decide)).mono ?_
  rintro e w1 ⟨k, hk, rfl, rfl⟩
  go_wp2_with (at_make; refine wpList_make_full _ rfl _ _ 41 rfl w.heap.size 3 i0 (.int .i64 0) 1 Try.underlying41 hi hz0 hz1 .i64 .i64 k k k rfl rfl rfl rfl (by rw [hz2]; omega) ?c3 (Nat.le_refl _) ?_)
  case c3 => unfold maxLen; omega
  intro w2 hown2 hg2
  have hb2 : Below w.heap.size w w2 := (Below.refl _ _).grown hg2 (Nat.le_refl _) (fun k hk => by simp at hk)
  obtain ⟨a2, cap2, e2, hz, hcap⟩ := Zeros.ofOwn (n := k) (by simpa [toList_madeCells_one] using hown2)
  obtain ⟨rfl, rfl⟩ : some ⟨w.heap.size, 0, none⟩ = a2 ∧ k = cap2 := by simpa using e2
  have HZ := Lib.hid hz
  have HC := Lib.hid hcap
  clear hown2 hg2 e2 hz hcap
  go_wp2_with (at_builtin; refine wpList_append_src _ rfl _ _ 41 41 rfl w2.heap.size 3 i0 (.int .i64 0) 1 8 Try.underlying41 hi hz0 hz1 hz2 rfl _ _ 1 [.int .i64 0] rfl rfl (World.ownsRow_lit w2 #[.int .i64 0] 1 (Nat.le_refl _) (by decide) rfl) k (List.replicate k (.int .i64 0)) ((HZ.out.keep ((Below.refl _ _).alloc (Nat.le_refl _) _)).src HC.out) ?c4 (by omega) (by simp) ?_)
  case c4 => unfold maxLen; omega
  intro v3 w3 hown3 hg3
  have hb3 : Below w2.heap.size w2 w3 := ((Below.refl _ _).alloc (Nat.le_refl _) _).grown hg3 (by simp) (fun k hk => by simp [Value.ownBlock] at hk; omega)
  obtain ⟨a3, cap3, rfl, hz3, _⟩ := Zeros.ofOwn (n := 1 + k) (B := w2.heap.size) (v := v3) (w := w3) (by rw [Nat.add_comm 1 k, List.replicate_succ]; rw [Nat.add_comm 1 k] at hown3; exact hown3)
  have hbw3 := hb2.trans (hb3.mono hb2.size)
  have HZ3 := Lib.hid hz3
  have hzk := HZ.out.keep hb3
  have HZK := Lib.hid hzk
  clear hown3 hg3 hz3 hzk
  go_wp2_with fail
  refine (printSigns_zeros s a3 (1 + k) cap3 w3 HZ3.out (by omega) hs).mono ?_
  rintro e w4 ⟨rfl, hb4⟩
  have hbw4 := hbw3.trans (hb4.mono hbw3.size)
  have hzk4 := HZK.out.keep hb4
  have HZK4 := Lib.hid hzk4
  clear hzk4 hb4
  go_wp2_with fail
  refine (printSigns_zeros s _ k _ w4 HZK4.out (by omega) hs).mono ?_
  rintro e w5 ⟨rfl, hb5⟩
  have hbw5 := hbw4.trans (hb5.mono hbw4.size)
  have hq : ((starText s (1 + k)).toList == (starText s k ++ ByteArray.mk #[42]).toList) = true := str_same (by
    unfold starText
    rw [Nat.add_comm 1 k, List.replicate_succ']
    apply ByteArray.ext; apply Array.ext'; simp [ByteArray.data_append])
  have hsz : (starText s k).size ≤ 2147484647 := by
    have e : (starText s k).size = s.size + k := by
      unfold starText
      rw [ByteArray.size_append]
      congr 1
      show (List.replicate k (42 : UInt8)).toArray.size = k
      simp
    omega
  clear hb5
  go_wp2_with fail
  go_ret
  exact ⟨rfl, hbw5⟩

theorem lawPointers_any (s : ByteArray) (hs : s.size ≤ maxLen) (n : Int) (_hn : (Lit.int .i64 n).wf = true) (w : World) : Calls Try.prog 10 #[.string s, .int .i64 n] w (Yes w) := by
  by_cases h1 : 2147483647 < s.size
  · exact lawPointers_s s n w hs h1
  exact lawPointers_main s n w (by omega)

end Go.Proofs.Ytjemnnfnocmjlaa

/-
  printList over elements of a template's arguments (with the test isEmpty), LLVM style.
-/
import Derived.Test.YtjemnnfnocmjlaaLK
import Derived.Stop.Asserts
namespace Go.Proofs.Ytjemnnfnocmjlaa
open Go.RowKit

/-- What the program's table says of a type that a template's arguments hold: it is no pack, no list, no expansion; its precedence, if any, is the lowest. -/
structure LItem (T : TypeId) : Prop where
  e1 : ∀ (p : Value) (w : World), (Instr.typeAssert (.iface T p) 49 185 true).run Try.prog w = .ok (.tuple #[.pointer none, .bool false]) w
  e2 : ∀ (p : Value) (w : World), (Instr.typeAssert (.iface T p) 49 188 true).run Try.prog w = .ok (.tuple #[.pointer none, .bool false]) w
  e3 : ∀ (p : Value) (w : World), (Instr.typeAssert (.iface T p) 49 191 true).run Try.prog w = .ok (.tuple #[.pointer none, .bool false]) w
  pr : (∀ (p : Value) (w : World), (Instr.typeAssert (.iface T p) 49 152 true).run Try.prog w = .ok (.tuple #[.nilIface, .bool false]) w) ∨
    ((∀ (p : Value) (w : World), (Instr.typeAssert (.iface T p) 49 152 true).run Try.prog w = .ok (.tuple #[.iface T p, .bool true]) w) ∧
      ∃ g, (∀ (a : Addr) (w : World), (method 304 T (.pointer (some a)) "loop.example/pub-g01448/pub/demangle.prec").run Try.prog w = .ok (g, .pointer (some a)) w) ∧
        (∀ (args : Array Value) (w : World), (callFunc g args).run Try.prog w = .ok (.enter g args) w) ∧
        ∀ (a : Addr) (w : World), Calls Try.prog g #[.pointer (some a)] w fun e w' => e = .returned (.int .i64 0) ∧ w = w')

theorem namePrec (a : Addr) (w : World) : Calls Try.prog 123 #[.pointer (some a)] w fun e w' => e = .returned (.int .i64 0) ∧ w = w' := by
  go_enter Try.func123, Try.ntmps123
  go_wp2_with fail
  go_ret
  exact ⟨rfl, rfl⟩

theorem liName : LItem 97 :=
  ⟨fun p w => by kernel_rfl, fun p w => by kernel_rfl, fun p w => by kernel_rfl, .inr ⟨fun p w => by kernel_rfl, 123, fun a w => by kernel_rfl, fun args w => by kernel_rfl, namePrec⟩⟩

theorem liTemplate : LItem 114 :=
  ⟨fun p w => by kernel_rfl, fun p w => by kernel_rfl, fun p w => by kernel_rfl, .inl fun p w => run_typeAssert_lacksB Try.underlying152 (by kernel_rfl) (by kernel_rfl) p 49 w⟩

set_option maxHeartbeats 1000000 in
theorem isEmpty_any (A T b : Nat) (w : World) (h : LItem T) :
    Calls Try.prog 154 #[.pointer (some ⟨A, 0, none⟩), .iface T (.pointer (some ⟨b, 0, none⟩))] w fun e w' => e = .returned (.bool false) ∧ w = w' := by
  have e1 := h.e1
  have e2 := h.e2
  have e3 := h.e3
  go_enter Try.func154, Try.ntmps154
  go_wp2_with fail
  go_ret
  exact ⟨rfl, rfl⟩

/-- Ahead of element k of a list. -/
def sepSt (k : Nat) (σ : PS) : PS := match k with
  | 0 => σ
  | _ + 1 => σ.text commaW.data.toList

theorem sepSt_llvm (k : Nat) (σ : PS) : (sepSt k σ).llvm = σ.llvm := by cases k <;> rfl

set_option maxRecDepth 100000 in
set_option maxHeartbeats 4000000 in
theorem printList_any (A g n cap : Nat) (Tf bf : Nat → Nat) (st : Nat → PS) (pr : List Value) (w : World) (hg : g < A) (hn : n ≤ 2000) (hc : ∀ k, k < n → w.cell? ⟨g, k, none⟩ = some (.iface (Tf k) (.pointer (some ⟨bf k, 0, none⟩)))) (hT : ∀ k, k < n → LItem (Tf k))
    (hv : ∀ k, k ≤ n → (st k).llvm = true) (ho : ∀ k, k + 1 < n → (st (k + 1)).out.length + 2 ≤ 140737488355328) (h : PSt A w (st 0) pr)
    (hp : ∀ k, k < n → ∀ w1, PSt A w1 (sepSt k (st k)) pr → Below A w w1 →
      Calls Try.prog 60 #[.pointer (some ⟨A, 0, none⟩), .iface (Tf k) (.pointer (some ⟨bf k, 0, none⟩))] w1 fun e w2 => e = .returned (.tuple #[]) ∧ PSt A w2 (st (k + 1)) pr ∧ Below A w1 w2) :
    Calls Try.prog 79 #[.pointer (some ⟨A, 0, none⟩), .slice (some ⟨g, 0, none⟩) n cap, .func (.func 154) #[.pointer (some ⟨A, 0, none⟩)] #[]] w fun e w' => e = .returned (.tuple #[]) ∧ PSt A w' (st n) pr ∧ Below A w w' := by
  have HC := Lib.hid hc
  have HT := Lib.hid hT
  have HV := Lib.hid hv
  have HO := Lib.hid ho
  have HP := Lib.hid hp
  clear hc hT hv ho hp
  have hneq : ∀ (f : Fn) (b c : Array Value) (w : World), (binOp .neq 150 (.func f b c) .nilFunc).run Try.prog w = .ok (.bool true) w := fun f b c w => by kernel_rfl
  go_enter Try.func79, Try.ntmps79
  go_wp2_with fail
  go_loopw [6, 14] (fun v i wr => ∃ k : Nat, k ≤ n ∧ i = .int .i64 k ∧ v = .bool (decide (k = 0)) ∧ PSt A wr (st k) pr ∧ Below A w wr) (fun _ i _ => n - (intOf i).toNat)
  case atStart => exact ⟨0, Nat.zero_le _, rfl, rfl, h, Below.refl _ _⟩
  case round =>
    obtain ⟨k, hk, rfl, rfl, hst, hb⟩ := hrel
    by_cases hlt : k < n
    · have hc1 : wr.cell? ⟨g, k, none⟩ = some (.iface (Tf k) (.pointer (some ⟨bf k, 0, none⟩))) := by rw [hb.cell (p := ⟨g, k, none⟩) hg]; exact HC.out k hlt
      have HI := Lib.hid (HT.out k hlt)
      have H1 := Lib.hid hst
      have HB := Lib.hid hb
      clear h hst hb
      go_wp2_with fail
      refine (isEmpty_any A (Tf k) (bf k) wr HI.out).mono ?_
      rintro e w1 ⟨rfl, rfl⟩
      rcases Nat.eq_zero_or_pos k with hk0 | hk0
      · subst hk0
        have hv2 := H1.out.cLlvm
        rw [HV.out 0 hk] at hv2
        have H2 := Lib.hid (show PSt A wr (sepSt 0 (st 0)) pr from H1.out)
        have HB2 := HB
        clear H1 HB
        rcases HI.out.pr with e4 | ⟨e4, g1, e5, e6, e7⟩
        · go_wp2_with fail
          refine (HP.out 0 hlt _ H2.out HB2.out).mono ?_
          rintro e w3 ⟨rfl, hp3, hb3⟩
          go_wp2_with fail
          go_roundw
          case rel => exact ⟨0 + 1, by omega, by go_num, by simp, hp3, HB2.out.trans hb3⟩
          case measure => simp [intOf]; omega
        · go_wp2_with fail
          refine (e7 _ _).mono ?_
          rintro e w3 ⟨rfl, rfl⟩
          go_wp2_with fail
          refine (HP.out 0 hlt _ H2.out HB2.out).mono ?_
          rintro e w4 ⟨rfl, hp3, hb3⟩
          go_wp2_with fail
          go_roundw
          case rel => exact ⟨0 + 1, by omega, by go_num, by simp, hp3, HB2.out.trans hb3⟩
          case measure => simp [intOf]; omega
      · obtain ⟨k, rfl⟩ : ∃ j, k = j + 1 := ⟨k - 1, by omega⟩
        go_wp2_with fail
        change Calls Try.prog 63 #[.pointer (some ⟨A, 0, none⟩), .string commaW] wr _
        refine (writeString_any A wr (st (k + 1)) pr commaW H1.out (by rw [show commaW.size = 2 from rfl]; exact HO.out k hlt)).mono ?_
        rintro e w2 ⟨rfl, hp2, hb2⟩
        have H2 := Lib.hid hp2
        have HB2 := Lib.hid (HB.out.trans hb2)
        have hv2 := hp2.cLlvm
        rw [show ((st (k + 1)).text commaW.data.toList).llvm = true from HV.out (k + 1) hk] at hv2
        clear hp2 hb2 H1 HB
        rcases HI.out.pr with e4 | ⟨e4, g1, e5, e6, e7⟩
        · go_wp2_with fail
          refine (HP.out (k + 1) hlt _ H2.out HB2.out).mono ?_
          rintro e w3 ⟨rfl, hp3, hb3⟩
          go_wp2_with fail
          go_roundw
          case rel => exact ⟨(k + 1) + 1, by omega, by go_num, by simp, hp3, HB2.out.trans hb3⟩
          case measure => simp [intOf]; omega
        · go_wp2_with fail
          refine (e7 _ _).mono ?_
          rintro e w3 ⟨rfl, rfl⟩
          go_wp2_with fail
          refine (HP.out (k + 1) hlt _ H2.out HB2.out).mono ?_
          rintro e w4 ⟨rfl, hp3, hb3⟩
          go_wp2_with fail
          go_roundw
          case rel => exact ⟨(k + 1) + 1, by omega, by go_num, by simp, hp3, HB2.out.trans hb3⟩
          case measure => simp [intOf]; omega
    · have e : k = n := by omega
      subst e
      go_wp2_with fail
      go_end0
      exact ⟨rfl, hst, hb⟩

end Go.Proofs.Ytjemnnfnocmjlaa

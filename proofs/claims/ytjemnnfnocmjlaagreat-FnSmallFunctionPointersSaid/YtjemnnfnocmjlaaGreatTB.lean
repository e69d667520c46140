/-
  FunctionType's arguments: printArgs.
-/
import Derived.Test.YtjemnnfnocmjlaaGreatTA
namespace Go.Proofs.YtjemnnfnocmjlaaGreat
open Go.RowKit

/-- Ahead of element k of a list. -/
def sepSt (k : Nat) (σ : PS) : PS := match k with
  | 0 => σ
  | _ + 1 => σ.text commaW.data.toList

/-- The state behind the first k names of a list. -/
def stN (σ : PS) (args : List ByteArray) : Nat → PS
  | 0 => σ
  | k + 1 => (sepSt k (stN σ args k)).text (args.getD k ⟨#[]⟩).data.toList

theorem stN_out (σ : PS) (args : List ByteArray) (k : Nat) : (stN σ args k).out = σ.out ++ (joinN args k).data.toList := by
  induction k with
  | zero => simp [stN, joinN]
  | succ k ih =>
    rw [stN, PS.text_out]
    cases k with
    | zero => simp [sepSt, stN, joinN]
    | succ k =>
      rw [sepSt, PS.text_out, ih, joinN, bytes_append, bytes_append]
      simp only [List.append_assoc]

theorem out_len {l l' : List UInt8} {b : ByteArray} (h : l = l' ++ b.data.toList) : l.length = l'.length + b.size := by
  rw [h, List.length_append, Array.length_toList]
  rfl

theorem joinN_step (args : List ByteArray) (k : Nat) : (joinN args k).size + (args.getD k ⟨#[]⟩).size ≤ (joinN args (k + 1)).size := by
  cases k with
  | zero =>
    simp only [joinN, ByteArray.size_append]
    show 0 + _ ≤ 0 + _
    omega
  | succ k =>
    rw [show joinN args (k + 1 + 1) = (joinN args (k + 1) ++ commaW) ++ args.getD (k + 1) ⟨#[]⟩ from rfl, ByteArray.size_append, ByteArray.size_append]
    omega

theorem joinN_mono (args : List ByteArray) {k m : Nat} (h : k ≤ m) : (joinN args k).size ≤ (joinN args m).size := by
  induction m with
  | zero => rw [Nat.le_zero.1 h]; exact Nat.le_refl _
  | succ m ih =>
    rcases Nat.lt_or_ge k (m + 1) with hlt | hge
    · have := ih (by omega)
      have := joinN_step args m
      omega
    · rw [Nat.le_antisymm h hge]; exact Nat.le_refl _

theorem stN_scopes (σ : PS) (args : List ByteArray) (k : Nat) : (stN σ args k).scopes = σ.scopes := by
  induction k with
  | zero => rfl
  | succ k ih =>
    show (sepSt k (stN σ args k)).scopes = _
    cases k <;> exact ih

theorem keep_self (y : PS) {K : List (Nat × Array Value × Nat)} (h : y.kept = K) : { y with kept := K } = y := by subst h; rfl

theorem iaTyped (p : Value) (w : World) : (Instr.typeAssert (.iface 34 p) 36 118 true).run Tryz.prog w = .ok (.tuple #[.iface 34 p, .bool true]) w := by kernel_rfl
theorem ibTyped (p : Value) (w : World) : (Instr.typeAssert (.iface 34 p) 36 118 false).run Tryz.prog w = .ok (.iface 34 p) w := by kernel_rfl
theorem imTyped (a : Addr) (w : World) : (method 264 34 (.pointer (some a)) "loop.example/pub-g01448/pub/demangle.printInner").run Tryz.prog w = .ok (134, .pointer (some a)) w := by kernel_rfl
theorem icTyped (args : Array Value) (w : World) : (callFunc 134 args).run Tryz.prog w = .ok (.enter 134 args) w := by kernel_rfl
theorem inTyped : InnerT 34 134 := ⟨iaTyped, ibTyped, imTyped, icTyped⟩
theorem mtTyped (a : Addr) (w : World) : (method 264 34 (.pointer (some a)) "loop.example/pub-g01448/pub/demangle.print").run Tryz.prog w = .ok (37, .pointer (some a)) w := by kernel_rfl
theorem ccTyped (args : Array Value) (w : World) : (callFunc 37 args).run Tryz.prog w = .ok (.enter 37 args) w := by kernel_rfl
theorem ntTyped : NodeT 34 37 := meth_of 41 2 Tryz.underlying34 (by kernel_rfl) (by kernel_rfl) (by decide) mtTyped ccTyped

theorem isEmptyName (A b : Nat) (w : World) :
    Calls Tryz.prog 52 #[.pointer (some ⟨A, 0, none⟩), .iface 63 (.pointer (some ⟨b, 0, none⟩))] w fun e w' => e = .returned (.bool false) ∧ w = w' := by
  have e1 : ∀ (p : Value) (w : World), (Instr.typeAssert (.iface 63 p) 36 104 true).run Tryz.prog w = .ok (.tuple #[.pointer none, .bool false]) w := fun p w => by kernel_rfl
  have e2 : ∀ (p : Value) (w : World), (Instr.typeAssert (.iface 63 p) 36 107 true).run Tryz.prog w = .ok (.tuple #[.pointer none, .bool false]) w := fun p w => by kernel_rfl
  have e3 : ∀ (p : Value) (w : World), (Instr.typeAssert (.iface 63 p) 36 110 true).run Tryz.prog w = .ok (.tuple #[.pointer none, .bool false]) w := fun p w => by kernel_rfl
  go_enter Tryz.func52, Tryz.ntmps52
  go_wp2_with fail
  go_ret
  exact ⟨rfl, rfl⟩

/-- A slice of names, whatever its length. -/
def NRow (A : Nat) (w : World) (v : Value) (args : List ByteArray) (bf : Nat → Nat) : Prop :=
  ∃ a cap, v = .slice a args.length cap ∧ (0 < args.length → ∃ g, a = some ⟨g, 0, none⟩ ∧ g < A ∧ ∀ k, k < args.length → w.cell? ⟨g, k, none⟩ = some (.iface 63 (.pointer (some ⟨bf k, 0, none⟩)))) ∧
    ∀ k, k < args.length → El A w (bf k) #[.string (args.getD k ⟨#[]⟩)] 65

theorem NRow.grow {A A' : Nat} {w w' : World} {v : Value} {args : List ByteArray} {bf : Nat → Nat} (h : NRow A w v args bf) (hA : A ≤ A') (hb : Below A w w') : NRow A' w' v args bf := by
  obtain ⟨a, cap, e, h1, h2⟩ := h
  refine ⟨a, cap, e, fun h0 => ?_, fun k hk => (h2 k hk).grow hA hb⟩
  obtain ⟨g, e2, hg, hc⟩ := h1 h0
  exact ⟨g, e2, by omega, fun k hk => by rw [hb.cell (p := ⟨g, k, none⟩) hg]; exact hc k hk⟩

/-- The state behind the arguments in parentheses. -/
def argSt (σ : PS) (args : List ByteArray) : PS :=
  ((stN ((σ.scope (σ.scopes + 1)).byte 40) args args.length).scope σ.scopes).byte 41

theorem argSt_out (σ : PS) (args : List ByteArray) : (argSt σ args).out = σ.out ++ ([40] ++ (joinN args args.length).data.toList ++ [41]) := by
  show (stN ((σ.scope (σ.scopes + 1)).byte 40) args args.length).out ++ [41] = _
  rw [stN_out, PS.byte_out]
  show ((σ.out ++ [40]) ++ _) ++ [41] = _
  simp

set_option maxRecDepth 100000 in
set_option maxHeartbeats 8000000 in
theorem args_plain (A b bI : Nat) (retv argv : Value) (flag : Bool) (σ σ1 : PS) (pr : List Value) (args : List ByteArray) (bfn : Nat → Nat) (w : World) (h : PX A w σ [.iface 34 (.pointer (some ⟨bI, 0, none⟩))] pr) (he : El A w b #[retv, argv, .bool flag] 44) (hr : NRow A w argv args bfn) (ho : ∀ k, k < args.length → Others A w (bfn k) pr) (hl : pr.length ≤ 100000) (hn : args.length ≤ 2000)
    (hep : σ1.ep = true) (hs0 : 0 ≤ σ1.scopes) (hs1 : σ1.scopes ≤ 1000) (hz : σ1.out.length + (joinN args args.length).size + 100 ≤ 140737488355328)
    (hin : ∀ K w1, PX A w1 { σ with kept := K } [] pr → Below A w w1 →
      Calls Tryz.prog 134 #[.pointer (some ⟨bI, 0, none⟩), .pointer (some ⟨A, 0, none⟩)] w1 fun e w2 => e = .returned (.tuple #[]) ∧ PX A w2 { σ1 with kept := K } [] pr ∧ Below A w1 w2) (hk : σ1.kept = σ.kept) :
    Calls Tryz.prog 48 #[.pointer (some ⟨b, 0, none⟩), .pointer (some ⟨A, 0, none⟩)] w fun e w' => e = .returned (.tuple #[]) ∧ PX A w' (argSt σ1 args) [] pr ∧ Below A w w' := by
  have q0 : ∀ (p : Value) (w : World), (Instr.typeAssert (.iface 34 p) 36 45 true).run Tryz.prog w = .ok (.tuple #[.pointer none, .bool false]) w := fun p w => by kernel_rfl
  have q1 : ∀ (p : Value) (w : World), (Instr.typeAssert (.iface 34 p) 36 48 true).run Tryz.prog w = .ok (.tuple #[.pointer none, .bool false]) w := fun p w => by kernel_rfl
  have q2 : ∀ (p : Value) (w : World), (Instr.typeAssert (.iface 34 p) 36 94 true).run Tryz.prog w = .ok (.tuple #[.pointer none, .bool false]) w := fun p w => by kernel_rfl
  have q3 : ∀ (p : Value) (w : World), (Instr.typeAssert (.iface 34 p) 36 95 true).run Tryz.prog w = .ok (.tuple #[.pointer none, .bool false]) w := fun p w => by kernel_rfl
  have q4 : ∀ (p : Value) (w : World), (Instr.typeAssert (.iface 34 p) 36 96 true).run Tryz.prog w = .ok (.tuple #[.pointer none, .bool false]) w := fun p w => by kernel_rfl
  have q5 : ∀ (p : Value) (w : World), (Instr.typeAssert (.iface 34 p) 36 97 true).run Tryz.prog w = .ok (.tuple #[.pointer none, .bool false]) w := fun p w => by kernel_rfl
  have q6 : ∀ (p : Value) (w : World), (Instr.typeAssert (.iface 34 p) 36 98 true).run Tryz.prog w = .ok (.tuple #[.pointer none, .bool false]) w := fun p w => by kernel_rfl
  obtain ⟨a, cap, hc, hown, hp, hpos⟩ := h.row
  obtain ⟨g, rfl, hcap⟩ := hpos (by simp)
  have hel : w.cell? ⟨g, 0, none⟩ = some (.iface 34 (.pointer (some ⟨bI, 0, none⟩))) := by
    rw [hown.cellAt 0 (by simp)]
    rfl
  have hc : w.cell? ⟨A, 8, none⟩ = some (.slice (some ⟨g, 0, none⟩) 1 cap) := hc
  have H := Lib.hid h
  have HI := Lib.hid hin
  clear h hown hp hpos hin hcap
  go_enter Tryz.func48, Tryz.ntmps48
  go_wp2_with fail
  refine wp_loop_rounds 2 ?_
  rw [rounds_succ]
  go_wp2_with fail
  rw [rounds_succ]
  go_wp2_with fail
  refine (printInnerT_any A 1 (fun _ => 34) (fun _ => 134) (fun _ => bI) (fun j => match j with | 0 => σ | _ + 1 => σ1) pr w H.out (by decide) (fun _ _ => inTyped) (fun _ _ p w => by kernel_rfl) (fun K j i hji w1 h1 hb1 => ?_)).mono ?_
  · obtain rfl : j = 0 := by omega
    obtain rfl : i = 0 := by omega
    exact HI.out K w1 h1 hb1
  rintro e w8 ⟨rfl, hp8, hb8⟩
  have hp8 : PX A w8 σ1 [] pr := by
    have := hp8
    rw [show ({ (match 1 with | 0 => σ | _ + 1 => σ1 : PS) with kept := (match 0 with | 0 => σ | _ + 1 => σ1 : PS).kept } : PS) = σ1 from keep_self σ1 hk] at this
    exact this
  clear HI H hel hc
  go_wp2_with fail
  refine (startScopeX A _ σ1 [] pr 40 40 rfl hp8 (by omega) (by omega) (by omega)).mono ?_
  rintro e w9 ⟨rfl, hp9, hb9⟩
  have hbw9 := hb8.trans hb9
  have a1 := (he.keep hbw9).cell 1
  have a2 := (he.keep hbw9).cell 2
  obtain ⟨iv9, hs9⟩ := id hp9
  have ep9 := hs9.cEp
  rw [show ({ ((σ1.scope (σ1.scopes + 1)).byte 40) with iv := iv9, inner := [] } : PS).ep = true from hep] at ep9
  obtain ⟨ra, rcap, rfl, hrow, hels⟩ := hr
  have HR := Lib.hid hrow
  have HE := Lib.hid hels
  have HO := Lib.hid ho
  have H9 := Lib.hid hp9
  have HB9 := Lib.hid hbw9
  have hA9 := hp9.lt
  clear hp9 hb9 hbw9 hs9 hrow hels ho hp8 hb8
  have hsz : ∀ k, k < args.length → (sepSt k (stN ((σ1.scope (σ1.scopes + 1)).byte 40) args k)).out.length + (args.getD k ⟨#[]⟩).size ≤ 140737488355300 := fun k hk => by
    have h1 := out_len (stN_out ((σ1.scope (σ1.scopes + 1)).byte 40) args (k + 1))
    have h3 := joinN_mono args (show k + 1 ≤ args.length from hk)
    have h5 : (stN ((σ1.scope (σ1.scopes + 1)).byte 40) args (k + 1)).out.length = (sepSt k (stN ((σ1.scope (σ1.scopes + 1)).byte 40) args k)).out.length + (args.getD k ⟨#[]⟩).size := out_len rfl
    have h6 : ((σ1.scope (σ1.scopes + 1)).byte 40).out.length = σ1.out.length + 1 := by show (σ1.out ++ [40]).length = _; simp
    omega
  have hszn : (stN ((σ1.scope (σ1.scopes + 1)).byte 40) args args.length).out.length ≤ 140737488355300 := by
    have h1 := out_len (stN_out ((σ1.scope (σ1.scopes + 1)).byte 40) args args.length)
    have h6 : ((σ1.scope (σ1.scopes + 1)).byte 40).out.length = σ1.out.length + 1 := by show (σ1.out ++ [40]).length = _; simp
    omega
  have hsc : (stN ((σ1.scope (σ1.scopes + 1)).byte 40) args args.length).scopes = σ1.scopes + 1 := stN_scopes _ _ _
  have hst0 : stN ((σ1.scope (σ1.scopes + 1)).byte 40) args 0 = (σ1.scope (σ1.scopes + 1)).byte 40 := rfl
  have hfin : argSt σ1 args = ((stN ((σ1.scope (σ1.scopes + 1)).byte 40) args args.length).scope ((stN ((σ1.scope (σ1.scopes + 1)).byte 40) args args.length).scopes - 1)).byte 41 := by
    rw [hsc, Int.add_sub_cancel]; rfl
  have HFIN := Lib.hid hfin
  clear hfin
  have HSZ := Lib.hid hsz
  rw [← hst0] at H9
  generalize (σ1.scope (σ1.scopes + 1)).byte 40 = S0 at *
  clear hsz hst0
  cases flag
  all_goals
    go_wp2_with fail
    go_loopw [8, 107] (fun v i wr => ∃ k : Nat, k ≤ args.length ∧ i = .int .i64 k ∧ v = .bool (decide (k = 0)) ∧ PX A wr (stN S0 args k) [] pr ∧ Below A w wr) (fun _ i _ => args.length - (intOf i).toNat)
    case atStart => exact ⟨0, Nat.zero_le _, rfl, rfl, H9.out, HB9.out⟩
    case round =>
      obtain ⟨k, hk, rfl, rfl, hst, hb⟩ := hrel
      by_cases hlt : k < args.length
      · obtain ⟨g, rfl, hg, hcs⟩ := HR.out (by omega)
        have hc1 : wr.cell? ⟨g, k, none⟩ = some (.iface 63 (.pointer (some ⟨bfn k, 0, none⟩))) := by rw [hb.cell (p := ⟨g, k, none⟩) hg]; exact hcs k hlt
        have H1 := Lib.hid hst
        have HB := Lib.hid hb
        clear hst hb hcs H9 HB9
        go_wp2_with fail
        refine (isEmptyName A (bfn k) wr).mono ?_
        rintro e w1 ⟨rfl, rfl⟩
        rcases Nat.eq_zero_or_pos k with hk0 | hk0
        · subst hk0
          go_wp2_with fail
          refine (print_nameX A (bfn 0) _ wr (stN S0 args 0) [] pr H1.out ((HE.out 0 hlt).keep HB.out) ((HO.out 0 hlt).keep HB.out) hl (by have := HSZ.out 0 hlt; show (sepSt 0 (stN S0 args 0)).out.length + _ ≤ _; omega)).mono ?_
          rintro e w3 ⟨rfl, hp3, hb3⟩
          go_wp2_with fail
          go_roundw
          case rel => exact ⟨1, by omega, by go_num, by simp, hp3, HB.out.trans hb3⟩
          case measure => simp [intOf]; omega
        · obtain ⟨k, rfl⟩ : ∃ j, k = j + 1 := ⟨k - 1, by omega⟩
          have hz := HSZ.out (k + 1) hlt
          rw [show sepSt (k + 1) (stN S0 args (k + 1)) = (stN S0 args (k + 1)).text commaW.data.toList from rfl, PS.text_out, List.length_append, show commaW.data.toList.length = 2 from rfl] at hz
          go_wp2_with fail
          change Calls Tryz.prog 53 #[.pointer (some ⟨A, 0, none⟩), .string commaW] wr _
          refine (writeStringX A wr (stN S0 args (k + 1)) [] pr commaW H1.out (by rw [show commaW.size = 2 from rfl]; omega)).mono ?_
          rintro e w2 ⟨rfl, hp2, hb2⟩
          have hbb := HB.out.trans hb2
          go_wp2_with fail
          refine (print_nameX A (bfn (k + 1)) _ w2 _ [] pr hp2 ((HE.out (k + 1) hlt).keep hbb) ((HO.out (k + 1) hlt).keep hbb) hl (by rw [PS.text_out, List.length_append, show commaW.data.toList.length = 2 from rfl]; omega)).mono ?_
          rintro e w3 ⟨rfl, hp3, hb3⟩
          go_wp2_with fail
          go_roundw
          case rel => exact ⟨k + 1 + 1, by omega, by go_num, by simp, hp3, hbb.trans hb3⟩
          case measure => simp [intOf]; omega
      · have e : k = args.length := by omega
        subst e
        have H1 := Lib.hid hst
        have HB := Lib.hid hb
        clear hst hb H9 HB9
        go_wp2_with fail
        refine (endScopeX A wr _ [] pr 41 41 rfl H1.out (by omega) (by omega) (by omega)).mono ?_
        rintro e w3 ⟨rfl, hp3, hb3⟩
        have hbb := HB.out.trans hb3
        obtain ⟨ai, capi, hci, _⟩ := hp3.row
        obtain ⟨iv3, hs3⟩ := id hp3
        have f8 := hs3.free 8
        obtain ⟨h4, hb4⟩ := hp3.setNil
        have H4 := Lib.hid h4
        have HB4 := Lib.hid (hbb.trans hb4)
        clear H1 HB hp3 hb3 hbb hs3 h4 hb4
        go_wp2_with fail
        refine (printInnerF_any A _ pr _ H4.out).mono ?_
        rintro e w5 ⟨rfl, hp5, hb5⟩
        have hb5' := HB4.out.trans hb5
        clear hb5
        have HP5 := Lib.hid hp5
        clear hp5
        go_wp2_with fail
        go_end0
        exact ⟨rfl, by rw [HFIN]; exact HP5.out, hb5'⟩

end Go.Proofs.YtjemnnfnocmjlaaGreat

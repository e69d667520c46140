/-
  FunctionType's arguments within a pointer or a reference.
-/
import Derived.Test.YtjemnnfnocmjlaaGreatTB
namespace Go.Proofs.YtjemnnfnocmjlaaGreat
open Go.RowKit

set_option maxRecDepth 100000 in
set_option maxHeartbeats 8000000 in
theorem args_PointerType (A b m : Nat) (Tf ff bf : Nat → Nat) (st : Nat → PS) (retv argv : Value) (flag : Bool) (σ σ2 : PS) (pr : List Value) (args : List ByteArray) (bfn : Nat → Nat) (w : World) (h : PX A w σ (insL Tf bf (m + 1)) pr) (he : El A w b #[retv, argv, .bool flag] 44) (hr : NRow A w argv args bfn) (ho : ∀ k, k < args.length → Others A w (bfn k) pr) (hl : pr.length ≤ 100000) (hn : args.length ≤ 2000)
    (hTop : Tf m = 45) (hm : m + 1 ≤ 100000) (hlast : σ.last = 32) (hs0 : 0 ≤ σ.scopes) (hs1 : σ.scopes ≤ 1000) (hz : σ.out.length + 100 ≤ 140737488355328) (hst0 : st 0 = (σ.scope (σ.scopes + 1)).byte 40)
    (hT : ∀ j, j < m + 1 → InnerT (Tf j) (ff j))
    (hq : ∀ j, j < m + 1 → ∀ (p : Value) (w : World), (Instr.typeAssert (.iface (Tf j) p) 36 115 true).run Tryz.prog w = .ok (.tuple #[.pointer none, .bool false]) w)
    (hin : ∀ K j i, j + i + 1 = m + 1 → ∀ w1, PX A w1 { st j with kept := K } (insL Tf bf i) pr → Below A w w1 →
      Calls Tryz.prog (ff i) #[.pointer (some ⟨bf i, 0, none⟩), .pointer (some ⟨A, 0, none⟩)] w1 fun e w2 => e = .returned (.tuple #[]) ∧ PX A w2 { st (j + 1) with kept := K } (insL Tf bf i) pr ∧ Below A w1 w2)
    (hk : (st (m + 1)).kept = σ.kept) (ht0 : -1000 ≤ (st (m + 1)).scopes) (ht1 : (st (m + 1)).scopes ≤ 1000) (hy : (st (m + 1)).out.length + 100 ≤ 140737488355328)
    (hs2 : σ2 = ((st (m + 1)).scope ((st (m + 1)).scopes - 1)).byte 41) (hep : σ2.ep = true) (hu0 : 0 ≤ σ2.scopes) (hu1 : σ2.scopes ≤ 1000) (hx : σ2.out.length + (joinN args args.length).size + 100 ≤ 140737488355328) :
    Calls Tryz.prog 48 #[.pointer (some ⟨b, 0, none⟩), .pointer (some ⟨A, 0, none⟩)] w fun e w' => e = .returned (.tuple #[]) ∧ PX A w' (argSt σ2 args) [] pr ∧ Below A w w' := by
  have q0 : ∀ (p : Value) (w : World), (Instr.typeAssert (.iface 45 p) 36 45 true).run Tryz.prog w = .ok (.tuple #[p, .bool true]) w := fun p w => by kernel_rfl
  have q1 : ∀ (p : Value) (w : World), (Instr.typeAssert (.iface 45 p) 36 48 true).run Tryz.prog w = .ok (.tuple #[.pointer none, .bool false]) w := fun p w => by kernel_rfl
  have q2 : ∀ (p : Value) (w : World), (Instr.typeAssert (.iface 45 p) 36 94 true).run Tryz.prog w = .ok (.tuple #[.pointer none, .bool false]) w := fun p w => by kernel_rfl
  have q3 : ∀ (p : Value) (w : World), (Instr.typeAssert (.iface 45 p) 36 95 true).run Tryz.prog w = .ok (.tuple #[.pointer none, .bool false]) w := fun p w => by kernel_rfl
  have q4 : ∀ (p : Value) (w : World), (Instr.typeAssert (.iface 45 p) 36 96 true).run Tryz.prog w = .ok (.tuple #[.pointer none, .bool false]) w := fun p w => by kernel_rfl
  have q5 : ∀ (p : Value) (w : World), (Instr.typeAssert (.iface 45 p) 36 97 true).run Tryz.prog w = .ok (.tuple #[.pointer none, .bool false]) w := fun p w => by kernel_rfl
  have q6 : ∀ (p : Value) (w : World), (Instr.typeAssert (.iface 45 p) 36 98 true).run Tryz.prog w = .ok (.tuple #[.pointer none, .bool false]) w := fun p w => by kernel_rfl
  obtain ⟨a, cap, hc, hown, hp, hpos⟩ := h.row
  rw [insL_len] at hc hown hpos
  obtain ⟨g, rfl, hcap⟩ := hpos (by omega)
  have hel : w.cell? ⟨g, m, none⟩ = some (.iface 45 (.pointer (some ⟨bf m, 0, none⟩))) := by
    rw [hown.cellAt m (by omega), insL, hTop]
    simp [insL_len]
  obtain ⟨iv0, hs00⟩ := id h
  have l0 := hs00.cLast
  rw [show ({ σ with iv := iv0, inner := insL Tf bf (m + 1) } : PS).last = 32 from hlast] at l0
  have H := Lib.hid h
  have HI := Lib.hid hin
  have HT := Lib.hid hT
  have HQ := Lib.hid hq
  clear h hown hp hpos hin hcap hs00 hT hq
  go_enter Tryz.func48, Tryz.ntmps48
  go_wp2_with fail
  refine wp_loop_rounds 1 ?_
  rw [rounds_succ]
  go_wp2_with fail
  refine (startScopeX A w σ _ pr 40 40 rfl H.out (by omega) (by omega) (by omega)).mono ?_
  rintro e w6 ⟨rfl, hp6, hb6⟩
  rw [← hst0] at hp6
  have H6 := Lib.hid hp6
  have HB6 := Lib.hid hb6
  clear hp6 hb6 H hel hc l0
  go_wp2_with fail
  refine (printInnerT_any A (m + 1) Tf ff bf st pr w6 H6.out hm HT.out HQ.out (fun K j i hji w1 h1 hb1 => HI.out K j i hji w1 h1 (HB6.out.trans hb1))).mono ?_
  rintro e w7 ⟨rfl, hp7, hb7⟩
  rw [show (st 0).kept = σ.kept by rw [hst0]; rfl, keep_self _ hk] at hp7
  have hb7' := HB6.out.trans hb7
  have H7 := Lib.hid hp7
  have HB7 := Lib.hid hb7'
  clear hp7 hb7 hb7' H6 HB6 HI
  go_wp2_with fail
  refine (endScopeX A w7 _ [] pr 41 41 rfl H7.out (by omega) (by omega) (by omega)).mono ?_
  rintro e w8 ⟨rfl, hp8, hb8⟩
  rw [← hs2] at hp8
  have hb8 := HB7.out.trans hb8
  clear H7 HB7
  go_wp2_with fail
  refine (startScopeX A _ σ2 [] pr 40 40 rfl hp8 (by omega) (by omega) (by omega)).mono ?_
  rintro e w9 ⟨rfl, hp9, hb9⟩
  have hbw9 := hb8.trans hb9
  have a1 := (he.keep hbw9).cell 1
  have a2 := (he.keep hbw9).cell 2
  obtain ⟨iv9, hs9⟩ := id hp9
  have ep9 := hs9.cEp
  rw [show ({ ((σ2.scope (σ2.scopes + 1)).byte 40) with iv := iv9, inner := [] } : PS).ep = true from hep] at ep9
  obtain ⟨ra, rcap, rfl, hrow, hels⟩ := hr
  have HR := Lib.hid hrow
  have HE := Lib.hid hels
  have HO := Lib.hid ho
  have H9 := Lib.hid hp9
  have HB9 := Lib.hid hbw9
  have hA9 := hp9.lt
  clear hp9 hb9 hbw9 hs9 hrow hels ho hp8 hb8
  have hsz : ∀ k, k < args.length → (sepSt k (stN ((σ2.scope (σ2.scopes + 1)).byte 40) args k)).out.length + (args.getD k ⟨#[]⟩).size ≤ 140737488355300 := fun k hk => by
    have h1 := out_len (stN_out ((σ2.scope (σ2.scopes + 1)).byte 40) args (k + 1))
    have h3 := joinN_mono args (show k + 1 ≤ args.length from hk)
    have h5 : (stN ((σ2.scope (σ2.scopes + 1)).byte 40) args (k + 1)).out.length = (sepSt k (stN ((σ2.scope (σ2.scopes + 1)).byte 40) args k)).out.length + (args.getD k ⟨#[]⟩).size := out_len rfl
    have h6 : ((σ2.scope (σ2.scopes + 1)).byte 40).out.length = σ2.out.length + 1 := by show (σ2.out ++ [40]).length = _; simp
    omega
  have hszn : (stN ((σ2.scope (σ2.scopes + 1)).byte 40) args args.length).out.length ≤ 140737488355300 := by
    have h1 := out_len (stN_out ((σ2.scope (σ2.scopes + 1)).byte 40) args args.length)
    have h6 : ((σ2.scope (σ2.scopes + 1)).byte 40).out.length = σ2.out.length + 1 := by show (σ2.out ++ [40]).length = _; simp
    omega
  have hsc : (stN ((σ2.scope (σ2.scopes + 1)).byte 40) args args.length).scopes = σ2.scopes + 1 := stN_scopes _ _ _
  have hst0 : stN ((σ2.scope (σ2.scopes + 1)).byte 40) args 0 = (σ2.scope (σ2.scopes + 1)).byte 40 := rfl
  have hfin : argSt σ2 args = ((stN ((σ2.scope (σ2.scopes + 1)).byte 40) args args.length).scope ((stN ((σ2.scope (σ2.scopes + 1)).byte 40) args args.length).scopes - 1)).byte 41 := by
    rw [hsc, Int.add_sub_cancel]; rfl
  have HFIN := Lib.hid hfin
  clear hfin
  have HSZ := Lib.hid hsz
  rw [← hst0] at H9
  generalize (σ2.scope (σ2.scopes + 1)).byte 40 = S0 at *
  clear hsz hst0
  cases flag
  all_goals
    go_wp2_with fail
    go_loopw [8, 107] (fun v i wr => ∃ k : Nat, k ≤ args.length ∧ i = .int .i64 k ∧ v = .bool (decide (k = 0)) ∧ PX A wr (stN S0 args k) [] pr ∧ Below A w wr) (fun _ i _ => args.length - (intOf i).toNat)
    case atStart => exact ⟨0, Nat.zero_le _, rfl, rfl, H9.out, HB9.out⟩
    case round =>
      obtain ⟨k, hk, rfl, rfl, hst, hb⟩ := hrel
      by_cases hlt : k < args.length
      · obtain ⟨g, rfl, hg, hcs⟩ := HR.out (by omega)
        have hc1 : wr.cell? ⟨g, k, none⟩ = some (.iface 63 (.pointer (some ⟨bfn k, 0, none⟩))) := by rw [hb.cell (p := ⟨g, k, none⟩) hg]; exact hcs k hlt
        have H1 := Lib.hid hst
        have HB := Lib.hid hb
        clear hst hb hcs H9 HB9
        go_wp2_with fail
        refine (isEmptyName A (bfn k) wr).mono ?_
        rintro e w1 ⟨rfl, rfl⟩
        rcases Nat.eq_zero_or_pos k with hk0 | hk0
        · subst hk0
          go_wp2_with fail
          refine (print_nameX A (bfn 0) _ wr (stN S0 args 0) [] pr H1.out ((HE.out 0 hlt).keep HB.out) ((HO.out 0 hlt).keep HB.out) hl (by have := HSZ.out 0 hlt; show (sepSt 0 (stN S0 args 0)).out.length + _ ≤ _; omega)).mono ?_
          rintro e w3 ⟨rfl, hp3, hb3⟩
          go_wp2_with fail
          go_roundw
          case rel => exact ⟨1, by omega, by go_num, by simp, hp3, HB.out.trans hb3⟩
          case measure => simp [intOf]; omega
        · obtain ⟨k, rfl⟩ : ∃ j, k = j + 1 := ⟨k - 1, by omega⟩
          have hz := HSZ.out (k + 1) hlt
          rw [show sepSt (k + 1) (stN S0 args (k + 1)) = (stN S0 args (k + 1)).text commaW.data.toList from rfl, PS.text_out, List.length_append, show commaW.data.toList.length = 2 from rfl] at hz
          go_wp2_with fail
          change Calls Tryz.prog 53 #[.pointer (some ⟨A, 0, none⟩), .string commaW] wr _
          refine (writeStringX A wr (stN S0 args (k + 1)) [] pr commaW H1.out (by rw [show commaW.size = 2 from rfl]; omega)).mono ?_
          rintro e w2 ⟨rfl, hp2, hb2⟩
          have hbb := HB.out.trans hb2
          go_wp2_with fail
          refine (print_nameX A (bfn (k + 1)) _ w2 _ [] pr hp2 ((HE.out (k + 1) hlt).keep hbb) ((HO.out (k + 1) hlt).keep hbb) hl (by rw [PS.text_out, List.length_append, show commaW.data.toList.length = 2 from rfl]; omega)).mono ?_
          rintro e w3 ⟨rfl, hp3, hb3⟩
          go_wp2_with fail
          go_roundw
          case rel => exact ⟨k + 1 + 1, by omega, by go_num, by simp, hp3, hbb.trans hb3⟩
          case measure => simp [intOf]; omega
      · have e : k = args.length := by omega
        subst e
        have H1 := Lib.hid hst
        have HB := Lib.hid hb
        clear hst hb H9 HB9
        go_wp2_with fail
        refine (endScopeX A wr _ [] pr 41 41 rfl H1.out (by omega) (by omega) (by omega)).mono ?_
        rintro e w3 ⟨rfl, hp3, hb3⟩
        have hbb := HB.out.trans hb3
        obtain ⟨ai, capi, hci, _⟩ := hp3.row
        obtain ⟨iv3, hs3⟩ := id hp3
        have f8 := hs3.free 8
        obtain ⟨h4, hb4⟩ := hp3.setNil
        have H4 := Lib.hid h4
        have HB4 := Lib.hid (hbb.trans hb4)
        clear H1 HB hp3 hb3 hbb hs3 h4 hb4
        go_wp2_with fail
        refine (printInnerF_any A _ pr _ H4.out).mono ?_
        rintro e w5 ⟨rfl, hp5, hb5⟩
        have hb5' := HB4.out.trans hb5
        clear hb5
        have HP5 := Lib.hid hp5
        clear hp5
        go_wp2_with fail
        go_end0
        exact ⟨rfl, by rw [HFIN]; exact HP5.out, hb5'⟩

set_option maxRecDepth 100000 in
set_option maxHeartbeats 8000000 in
theorem args_ReferenceType (A b m : Nat) (Tf ff bf : Nat → Nat) (st : Nat → PS) (retv argv : Value) (flag : Bool) (σ σ2 : PS) (pr : List Value) (args : List ByteArray) (bfn : Nat → Nat) (w : World) (h : PX A w σ (insL Tf bf (m + 1)) pr) (he : El A w b #[retv, argv, .bool flag] 44) (hr : NRow A w argv args bfn) (ho : ∀ k, k < args.length → Others A w (bfn k) pr) (hl : pr.length ≤ 100000) (hn : args.length ≤ 2000)
    (hTop : Tf m = 48) (hm : m + 1 ≤ 100000) (hlast : σ.last = 32) (hs0 : 0 ≤ σ.scopes) (hs1 : σ.scopes ≤ 1000) (hz : σ.out.length + 100 ≤ 140737488355328) (hst0 : st 0 = (σ.scope (σ.scopes + 1)).byte 40)
    (hT : ∀ j, j < m + 1 → InnerT (Tf j) (ff j))
    (hq : ∀ j, j < m + 1 → ∀ (p : Value) (w : World), (Instr.typeAssert (.iface (Tf j) p) 36 115 true).run Tryz.prog w = .ok (.tuple #[.pointer none, .bool false]) w)
    (hin : ∀ K j i, j + i + 1 = m + 1 → ∀ w1, PX A w1 { st j with kept := K } (insL Tf bf i) pr → Below A w w1 →
      Calls Tryz.prog (ff i) #[.pointer (some ⟨bf i, 0, none⟩), .pointer (some ⟨A, 0, none⟩)] w1 fun e w2 => e = .returned (.tuple #[]) ∧ PX A w2 { st (j + 1) with kept := K } (insL Tf bf i) pr ∧ Below A w1 w2)
    (hk : (st (m + 1)).kept = σ.kept) (ht0 : -1000 ≤ (st (m + 1)).scopes) (ht1 : (st (m + 1)).scopes ≤ 1000) (hy : (st (m + 1)).out.length + 100 ≤ 140737488355328)
    (hs2 : σ2 = ((st (m + 1)).scope ((st (m + 1)).scopes - 1)).byte 41) (hep : σ2.ep = true) (hu0 : 0 ≤ σ2.scopes) (hu1 : σ2.scopes ≤ 1000) (hx : σ2.out.length + (joinN args args.length).size + 100 ≤ 140737488355328) :
    Calls Tryz.prog 48 #[.pointer (some ⟨b, 0, none⟩), .pointer (some ⟨A, 0, none⟩)] w fun e w' => e = .returned (.tuple #[]) ∧ PX A w' (argSt σ2 args) [] pr ∧ Below A w w' := by
  have q0 : ∀ (p : Value) (w : World), (Instr.typeAssert (.iface 48 p) 36 45 true).run Tryz.prog w = .ok (.tuple #[.pointer none, .bool false]) w := fun p w => by kernel_rfl
  have q1 : ∀ (p : Value) (w : World), (Instr.typeAssert (.iface 48 p) 36 48 true).run Tryz.prog w = .ok (.tuple #[p, .bool true]) w := fun p w => by kernel_rfl
  have q2 : ∀ (p : Value) (w : World), (Instr.typeAssert (.iface 48 p) 36 94 true).run Tryz.prog w = .ok (.tuple #[.pointer none, .bool false]) w := fun p w => by kernel_rfl
  have q3 : ∀ (p : Value) (w : World), (Instr.typeAssert (.iface 48 p) 36 95 true).run Tryz.prog w = .ok (.tuple #[.pointer none, .bool false]) w := fun p w => by kernel_rfl
  have q4 : ∀ (p : Value) (w : World), (Instr.typeAssert (.iface 48 p) 36 96 true).run Tryz.prog w = .ok (.tuple #[.pointer none, .bool false]) w := fun p w => by kernel_rfl
  have q5 : ∀ (p : Value) (w : World), (Instr.typeAssert (.iface 48 p) 36 97 true).run Tryz.prog w = .ok (.tuple #[.pointer none, .bool false]) w := fun p w => by kernel_rfl
  have q6 : ∀ (p : Value) (w : World), (Instr.typeAssert (.iface 48 p) 36 98 true).run Tryz.prog w = .ok (.tuple #[.pointer none, .bool false]) w := fun p w => by kernel_rfl
  obtain ⟨a, cap, hc, hown, hp, hpos⟩ := h.row
  rw [insL_len] at hc hown hpos
  obtain ⟨g, rfl, hcap⟩ := hpos (by omega)
  have hel : w.cell? ⟨g, m, none⟩ = some (.iface 48 (.pointer (some ⟨bf m, 0, none⟩))) := by
    rw [hown.cellAt m (by omega), insL, hTop]
    simp [insL_len]
  obtain ⟨iv0, hs00⟩ := id h
  have l0 := hs00.cLast
  rw [show ({ σ with iv := iv0, inner := insL Tf bf (m + 1) } : PS).last = 32 from hlast] at l0
  have H := Lib.hid h
  have HI := Lib.hid hin
  have HT := Lib.hid hT
  have HQ := Lib.hid hq
  clear h hown hp hpos hin hcap hs00 hT hq
  go_enter Tryz.func48, Tryz.ntmps48
  go_wp2_with fail
  refine wp_loop_rounds 1 ?_
  rw [rounds_succ]
  go_wp2_with fail
  refine (startScopeX A w σ _ pr 40 40 rfl H.out (by omega) (by omega) (by omega)).mono ?_
  rintro e w6 ⟨rfl, hp6, hb6⟩
  rw [← hst0] at hp6
  have H6 := Lib.hid hp6
  have HB6 := Lib.hid hb6
  clear hp6 hb6 H hel hc l0
  go_wp2_with fail
  refine (printInnerT_any A (m + 1) Tf ff bf st pr w6 H6.out hm HT.out HQ.out (fun K j i hji w1 h1 hb1 => HI.out K j i hji w1 h1 (HB6.out.trans hb1))).mono ?_
  rintro e w7 ⟨rfl, hp7, hb7⟩
  rw [show (st 0).kept = σ.kept by rw [hst0]; rfl, keep_self _ hk] at hp7
  have hb7' := HB6.out.trans hb7
  have H7 := Lib.hid hp7
  have HB7 := Lib.hid hb7'
  clear hp7 hb7 hb7' H6 HB6 HI
  go_wp2_with fail
  refine (endScopeX A w7 _ [] pr 41 41 rfl H7.out (by omega) (by omega) (by omega)).mono ?_
  rintro e w8 ⟨rfl, hp8, hb8⟩
  rw [← hs2] at hp8
  have hb8 := HB7.out.trans hb8
  clear H7 HB7
  go_wp2_with fail
  refine (startScopeX A _ σ2 [] pr 40 40 rfl hp8 (by omega) (by omega) (by omega)).mono ?_
  rintro e w9 ⟨rfl, hp9, hb9⟩
  have hbw9 := hb8.trans hb9
  have a1 := (he.keep hbw9).cell 1
  have a2 := (he.keep hbw9).cell 2
  obtain ⟨iv9, hs9⟩ := id hp9
  have ep9 := hs9.cEp
  rw [show ({ ((σ2.scope (σ2.scopes + 1)).byte 40) with iv := iv9, inner := [] } : PS).ep = true from hep] at ep9
  obtain ⟨ra, rcap, rfl, hrow, hels⟩ := hr
  have HR := Lib.hid hrow
  have HE := Lib.hid hels
  have HO := Lib.hid ho
  have H9 := Lib.hid hp9
  have HB9 := Lib.hid hbw9
  have hA9 := hp9.lt
  clear hp9 hb9 hbw9 hs9 hrow hels ho hp8 hb8
  have hsz : ∀ k, k < args.length → (sepSt k (stN ((σ2.scope (σ2.scopes + 1)).byte 40) args k)).out.length + (args.getD k ⟨#[]⟩).size ≤ 140737488355300 := fun k hk => by
    have h1 := out_len (stN_out ((σ2.scope (σ2.scopes + 1)).byte 40) args (k + 1))
    have h3 := joinN_mono args (show k + 1 ≤ args.length from hk)
    have h5 : (stN ((σ2.scope (σ2.scopes + 1)).byte 40) args (k + 1)).out.length = (sepSt k (stN ((σ2.scope (σ2.scopes + 1)).byte 40) args k)).out.length + (args.getD k ⟨#[]⟩).size := out_len rfl
    have h6 : ((σ2.scope (σ2.scopes + 1)).byte 40).out.length = σ2.out.length + 1 := by show (σ2.out ++ [40]).length = _; simp
    omega
  have hszn : (stN ((σ2.scope (σ2.scopes + 1)).byte 40) args args.length).out.length ≤ 140737488355300 := by
    have h1 := out_len (stN_out ((σ2.scope (σ2.scopes + 1)).byte 40) args args.length)
    have h6 : ((σ2.scope (σ2.scopes + 1)).byte 40).out.length = σ2.out.length + 1 := by show (σ2.out ++ [40]).length = _; simp
    omega
  have hsc : (stN ((σ2.scope (σ2.scopes + 1)).byte 40) args args.length).scopes = σ2.scopes + 1 := stN_scopes _ _ _
  have hst0 : stN ((σ2.scope (σ2.scopes + 1)).byte 40) args 0 = (σ2.scope (σ2.scopes + 1)).byte 40 := rfl
  have hfin : argSt σ2 args = ((stN ((σ2.scope (σ2.scopes + 1)).byte 40) args args.length).scope ((stN ((σ2.scope (σ2.scopes + 1)).byte 40) args args.length).scopes - 1)).byte 41 := by
    rw [hsc, Int.add_sub_cancel]; rfl
  have HFIN := Lib.hid hfin
  clear hfin
  have HSZ := Lib.hid hsz
  rw [← hst0] at H9
  generalize (σ2.scope (σ2.scopes + 1)).byte 40 = S0 at *
  clear hsz hst0
  cases flag
  all_goals
    go_wp2_with fail
    go_loopw [8, 107] (fun v i wr => ∃ k : Nat, k ≤ args.length ∧ i = .int .i64 k ∧ v = .bool (decide (k = 0)) ∧ PX A wr (stN S0 args k) [] pr ∧ Below A w wr) (fun _ i _ => args.length - (intOf i).toNat)
    case atStart => exact ⟨0, Nat.zero_le _, rfl, rfl, H9.out, HB9.out⟩
    case round =>
      obtain ⟨k, hk, rfl, rfl, hst, hb⟩ := hrel
      by_cases hlt : k < args.length
      · obtain ⟨g, rfl, hg, hcs⟩ := HR.out (by omega)
        have hc1 : wr.cell? ⟨g, k, none⟩ = some (.iface 63 (.pointer (some ⟨bfn k, 0, none⟩))) := by rw [hb.cell (p := ⟨g, k, none⟩) hg]; exact hcs k hlt
        have H1 := Lib.hid hst
        have HB := Lib.hid hb
        clear hst hb hcs H9 HB9
        go_wp2_with fail
        refine (isEmptyName A (bfn k) wr).mono ?_
        rintro e w1 ⟨rfl, rfl⟩
        rcases Nat.eq_zero_or_pos k with hk0 | hk0
        · subst hk0
          go_wp2_with fail
          refine (print_nameX A (bfn 0) _ wr (stN S0 args 0) [] pr H1.out ((HE.out 0 hlt).keep HB.out) ((HO.out 0 hlt).keep HB.out) hl (by have := HSZ.out 0 hlt; show (sepSt 0 (stN S0 args 0)).out.length + _ ≤ _; omega)).mono ?_
          rintro e w3 ⟨rfl, hp3, hb3⟩
          go_wp2_with fail
          go_roundw
          case rel => exact ⟨1, by omega, by go_num, by simp, hp3, HB.out.trans hb3⟩
          case measure => simp [intOf]; omega
        · obtain ⟨k, rfl⟩ : ∃ j, k = j + 1 := ⟨k - 1, by omega⟩
          have hz := HSZ.out (k + 1) hlt
          rw [show sepSt (k + 1) (stN S0 args (k + 1)) = (stN S0 args (k + 1)).text commaW.data.toList from rfl, PS.text_out, List.length_append, show commaW.data.toList.length = 2 from rfl] at hz
          go_wp2_with fail
          change Calls Tryz.prog 53 #[.pointer (some ⟨A, 0, none⟩), .string commaW] wr _
          refine (writeStringX A wr (stN S0 args (k + 1)) [] pr commaW H1.out (by rw [show commaW.size = 2 from rfl]; omega)).mono ?_
          rintro e w2 ⟨rfl, hp2, hb2⟩
          have hbb := HB.out.trans hb2
          go_wp2_with fail
          refine (print_nameX A (bfn (k + 1)) _ w2 _ [] pr hp2 ((HE.out (k + 1) hlt).keep hbb) ((HO.out (k + 1) hlt).keep hbb) hl (by rw [PS.text_out, List.length_append, show commaW.data.toList.length = 2 from rfl]; omega)).mono ?_
          rintro e w3 ⟨rfl, hp3, hb3⟩
          go_wp2_with fail
          go_roundw
          case rel => exact ⟨k + 1 + 1, by omega, by go_num, by simp, hp3, hbb.trans hb3⟩
          case measure => simp [intOf]; omega
      · have e : k = args.length := by omega
        subst e
        have H1 := Lib.hid hst
        have HB := Lib.hid hb
        clear hst hb H9 HB9
        go_wp2_with fail
        refine (endScopeX A wr _ [] pr 41 41 rfl H1.out (by omega) (by omega) (by omega)).mono ?_
        rintro e w3 ⟨rfl, hp3, hb3⟩
        have hbb := HB.out.trans hb3
        obtain ⟨ai, capi, hci, _⟩ := hp3.row
        obtain ⟨iv3, hs3⟩ := id hp3
        have f8 := hs3.free 8
        obtain ⟨h4, hb4⟩ := hp3.setNil
        have H4 := Lib.hid h4
        have HB4 := Lib.hid (hbb.trans hb4)
        clear H1 HB hp3 hb3 hbb hs3 h4 hb4
        go_wp2_with fail
        refine (printInnerF_any A _ pr _ H4.out).mono ?_
        rintro e w5 ⟨rfl, hp5, hb5⟩
        have hb5' := HB4.out.trans hb5
        clear hb5
        have HP5 := Lib.hid hp5
        clear hp5
        go_wp2_with fail
        go_end0
        exact ⟨rfl, by rw [HFIN]; exact HP5.out, hb5'⟩

end Go.Proofs.YtjemnnfnocmjlaaGreat

/-
  FnWalkStop: for every tree and every text the law returns true, and nothing that was there has turned. Conditions: the two listed tables (spec.builtins, spec.operators) hold what the program's text lays there; the card ties that to the text.
-/
import Derived.Test.YtdlhhdhooacogaaGreatDoorYT
import Derived.Test.YtdlhhdhooacogaaGreatDoorTie
import Derived.Test.YtdlhhdhooacogaaGreatDoorCards
import Derived.ProofKit
import Derived.LaidMore
import Derived.OpenShut
import Derived.OpenVars
import Derived.Stop.Joined
import Derived.SevenTiedAt
namespace Go.Proofs.YtdlhhdhooacogaaGreatDoor
open Go.ChangeShapes Go.WideShapes Go.ChangeAt Go.WideMaps Go.WideElems Go.RowKit
open Go.ChangeMaps (open_string shut_string)

theorem rowOwn : ownKnob Tryz.prog.godebug = none := by kernel_rfl
theorem rowLaidOut : laidOutB Tryz.prog = true := by kernel_rfl
theorem gB : Tryz.prog.globalNamed "loop.example/pub-g01448/spec.builtins" = some 0 := by kernel_rfl
theorem gO : Tryz.prog.globalNamed "loop.example/pub-g01448/spec.operators" = some 1 := by kernel_rfl
theorem tB : (Tryz.prog.globals[0]?).map (·.type) = some 148 := by kernel_rfl
theorem tO : (Tryz.prog.globals[1]?).map (·.type) = some 150 := by kernel_rfl

/-- The door's own heap meets the condition. -/
theorem door_met (os : Os) (args : Array Value) : laidMetH Tryz.prog Rows.fnWalkStopRow.laid ((World.doorLaid Tryz.prog 400 os).forCall (fun _ _ => 0) ⟨#[], args, []⟩).memory :=
  laidMetH_of_parts3 (fuel := 8) (laidMet_of_run' 8 (by kernel_rfl) (by kernel_rfl)) (by kernel_rfl) (by kernel_rfl)

theorem tab_strs {H : Type} {enc : TypeId × Value → H} {W : World} {base : Nat} {spare : Nat → Bool} {held : Bool} {n fuel : Nat} {t : TypeId} {cs : List Value} {x : DataW H × List MemPlace} (hu : Tryz.prog.underlying t = some (.array n 9))
    (hd : DataW.trod enc Tryz.prog W base spare held fuel t cs = some x) : ∀ i, i < n → ∃ s, cs[i]? = some (.string s) := by
  intro i hi
  obtain ⟨xs, m1, rfl, hx1, hlen, hn3, hel⟩ := DataW.trod_array hu hd
  have h0 := hel i hi
  rw [Tryz.strCells] at h0
  have h2 : xs[i]? = some (xs[i]'(by omega)) := List.getElem?_eq_getElem _
  rw [h2] at h0
  obtain ⟨s, e, _⟩ := DataW.trod_string Tryz.underlying9 h0
  refine ⟨s, ?_⟩
  have e2 : ((cs.drop (i * 1)).take 1)[0]? = cs[i]? := by simp
  rw [← e2, e]
  rfl

/-- What the condition gives the walk: the tables hold strings. -/
theorem of_laid {W : World} (h : laidMetH Tryz.prog Rows.fnWalkStopRow.laid W) : Tabs W := by
  rw [MakeChecks.laidMetH_plain _ _ _ (by kernel_rfl)] at h
  obtain ⟨ps, ⟨g0, t0, cs0, f0, p0, q0, hg0, ht0, hv0, hd0, ⟨g1, t1, cs1, f1, p1, q1, hg1, ht1, hv1, hd1, _, _⟩, _⟩, _, _⟩ := h
  obtain rfl := Option.some.inj (gB.symm.trans hg0)
  obtain rfl := Option.some.inj (gO.symm.trans hg1)
  obtain rfl := Option.some.inj (tB.symm.trans ht0)
  obtain rfl := Option.some.inj (tO.symm.trans ht1)
  obtain ⟨l0⟩ := cs0
  obtain ⟨l1⟩ := cs1
  have k0 := tab_strs Tryz.underlying148 hd0
  have k1 := tab_strs Tryz.underlying150 hd1
  have e0 : ∀ i, i < 56 → ∃ s, W.cell? ⟨0, i, none⟩ = some (.string s) := fun i hi => by
    obtain ⟨s, hs⟩ := k0 i hi
    exact ⟨s, by rw [World.var?_cell hg0 hv0 i]; simpa using hs⟩
  have e1 : ∀ i, i < 84 → ∃ s, W.cell? ⟨1, i, none⟩ = some (.string s) := fun i hi => by
    obtain ⟨s, hs⟩ := k1 i hi
    exact ⟨s, by rw [World.var?_cell hg1 hv1 i]; simpa using hs⟩
  obtain ⟨s0, h0⟩ := e0 0 (by decide)
  obtain ⟨s1, h1⟩ := e1 0 (by decide)
  exact ⟨World.block_lt_of_cell? W _ h0, World.block_lt_of_cell? W _ h1, e0, e1⟩

set_option maxRecDepth 100000 in
theorem lifted (os : Os) (started : os.Started) (H : Type) (enc : TypeId × Value → H) :
    ReturnsInHanded {} Tryz.checked os 3 .any (fun w args => (Rows.fnWalkStopSpec.pre enc Tryz.prog Tryz.f3 Rows.fnWalkStopRow.domain false w args ∧ laidMetH Tryz.prog Rows.fnWalkStopRow.laid w) ∧ sizedMet enc Tryz.prog Tryz.f3 (OpenSpec.ofChange Rows.fnWalkStopSpec) false w args)
      (Rows.fnWalkStopSpec.post enc Tryz.prog Tryz.f3 false true false false) := by
  refine returnsInHanded_of_change_and (C := Tryz.checked) (X := fun w _ => laidMetH Tryz.prog Rows.fnWalkStopRow.laid w) (fun _ _ _ hh h => h.of_heap hh) rowOwn started (by kernel_rfl) Tryz.func3
    (ChangeSpec.witness_shaped (enc := enc) (C := Tryz.checked) (os := os) (X := fun w _ => laidMetH Tryz.prog Rows.fnWalkStopRow.laid w) false (World.doorLaid Tryz.prog 400 os) #[.agg #[.string ByteArray.empty, .string ByteArray.empty, .int .i64 0, .slice none 0 0], .string ByteArray.empty] 8 rfl (World.shaped_of_RefB (by kernel_rfl) (by kernel_rfl)) (by kernel_rfl) (by kernel_rfl) (by kernel_rfl) (door_met os _)) ?_
  intro W base args ds gs before hval0 hW _ _ hL _
  have hval : ∀ (j : Nat) t v, Tryz.f3.params[j]? = some t → args[j]? = some v → Value.okWide Tryz.prog W .any base t v := hval0
  have hW' := hW
  obtain ⟨p, q, hA0, hV, rfl, hfz, hnd⟩ := hW
  have hA : DataW.TrodAll enc Tryz.prog W 0 (fun _ => true) true Tryz.f3.params.toList args.toList ds p := hA0
  rw [Tryz.params3] at hA hval
  obtain ⟨v0, vs0, d0, ds0, p0, q0, hargs, rfl, rfl, h0, r0⟩ := trodAll_cons hA
  obtain ⟨v1, vs1, d1, ds1, p1, q1, rfl, rfl, rfl, h1, r1⟩ := trodAll_cons r0
  obtain ⟨rfl, rfl, rfl⟩ := trodAll_nil r1
  obtain rfl : args = #[v0, v1] := by cases args; simp_all
  obtain ⟨a1, rfl, rfl, rfl, w1⟩ := open_string Tryz.underlying9 (hval 1 9 v1 rfl rfl) h1
  obtain ⟨cs, rfl, hcs⟩ := okWide_struct Tryz.underlying24 (hval 0 24 v0 rfl rfl)
  have k0 := h0
  have lt0 : ∀ x ∈ p0, x.block < W.heap.size := by obtain ⟨m, hm⟩ := k0; exact DataW.trod_lt m _ _ _ hm
  obtain ⟨t, ht⟩ : ∃ t, NV W cs.toList t := by
    obtain ⟨fuel, hf⟩ := h0
    exact open_node fuel _ _ hf
  obtain ⟨kind, text, num, a, n, cap, ecs⟩ := ht.four
  obtain rfl : cs = #[.string kind, .string text, .int .i64 num, .slice a n cap] := by cases cs; simp_all
  clear hA0 hval0
  refine (law_any t kind text num a n cap a1 W ht (of_laid hL)).mono fun e W' ⟨he, bel⟩ => ?_
  subst he
  have hV' := Below.trodVars rowLaidOut bel (by kernel_rfl) hV
  obtain ⟨gx, gy, rfl⟩ : ∃ gx gy, gs = [gx, gy] := by
    match gs, hV with
    | [gx, gy], _ => exact ⟨gx, gy, rfl⟩
    | [], h => exact h.elim
    | [_], h => obtain ⟨_, _, _, _, _, _, _, _, _, _, h, _⟩ := h; exact h.elim
    | _ :: _ :: _ :: _, h => obtain ⟨_, _, _, _, _, _, _, _, _, _, ⟨_, _, _, _, _, _, _, _, _, _, h, _⟩, _⟩ := h; exact h.elim
  exact ⟨_, rfl, _, _, _, _, _, _, hW', trodAll_mk1 (shut_bool Tryz.underlying4 _), (trodAll_cons_mk (Below.trod rowLaidOut (by kernel_rfl) (of_decide_eq_true (by kernel_rfl)) k0 bel lt0) (trodAll_cons_mk (shut_string Tryz.underlying9 w1) trodAll_mk0)), hV', bel.frame _, fun h => by cases h⟩

theorem fnWalkStop_row : Rows.FnWalkStopSaid :=
  OpenClaim.holds_of_wide 3 Tryz.f3 rfl rfl rfl rfl rfl rfl rfl ⟨rfl, rfl, rfl, rfl, rfl⟩ rfl rfl rfl rfl rfl (by kernel_rfl) Tryz.func3 (by kernel_rfl)
    (of_decide_eq_true (by kernel_rfl)) (by unfold Func.isWrapper; first | (rw [if_pos (by decide +kernel)]; kernel_rfl) | (rw [if_neg (by decide +kernel)]; exact ⟨rfl, rfl⟩))
    (fun os started H enc _ => lifted os started H enc)

theorem FnWalkStop_holds : Rows.FnWalkStopCardSaid :=
  Claim7.holds_tied_plain_at .later [] [.data, .data] true (true, "16d0036b1a8d5705415cde99335566eca267741e03d948890970a0f3649f9625") true
    fnWalkStop_row (fun _ h => by cases h) (by kernel_rfl) (fun _ h => by cases h) fnWalkStop_row_tie rfl ⟨rfl, rfl⟩ (by kernel_rfl) rfl
    (fun f fn hf hfn => by
      obtain rfl : f = 3 := Option.some.inj ((show Tryz.prog.funcNamed "loop.example/pub-g01448/laws.FnWalkStop" = some 3 by kernel_rfl).symm.trans hf) |>.symm
      obtain rfl : fn = Tryz.f3 := (Option.some.inj (Tryz.func3.symm.trans hfn)).symm
      exact ⟨by kernel_rfl, fun j t ht => by
        rw [Tryz.params3] at ht
        have hm : t ∈ [24, 9] := by simpa using Array.mem_of_getElem? ht
        have hall : ([24, 9].all fun u => !Tryz.prog.wantsStandIn u) = true := by kernel_rfl
        exact (show Tryz.prog.wantsStandIn t = false by simpa using List.all_eq_true.1 hall t hm)⟩)
    (by kernel_rfl)
#print axioms FnWalkStop_holds

end Go.Proofs.YtdlhhdhooacogaaGreatDoor

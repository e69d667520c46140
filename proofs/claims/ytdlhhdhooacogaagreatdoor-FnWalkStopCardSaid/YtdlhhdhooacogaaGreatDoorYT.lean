/-
  The law FnWalkStop, walked: true, whatever the input.
-/
import Derived.Test.YtdlhhdhooacogaaGreatDoorYR
import Derived.Test.YtdlhhdhooacogaaGreatDoorYS
import Derived.Test.YtdlhhdhooacogaaGreatDoorWZ
import Derived.Deep.RegionHeld3
namespace Go.Proofs.YtdlhhdhooacogaaGreatDoor
open Go.RowKit

theorem size_ks (d : Nat) (ih : ∀ t b, b ≤ 200 → sizeT d t b ≤ 200 → Dep d t ∧ (cnt d t : Int) ≤ sizeT d t b) (ks : List NT) : ∀ all bound : Int, all ≤ bound → bound ≤ 200 → 1 ≤ all → sizeKs (sizeT d) ks all bound ≤ 200 →
    (∀ k ∈ ks, Dep d k) ∧ all + ((ks.map (cnt d)).sum : Int) ≤ sizeKs (sizeT d) ks all bound := by
  induction ks with
  | nil => intro all bound h1 h2 h3 h4; exact ⟨fun k hk => by simp at hk, by simp [sizeKs]⟩
  | cons k ks ihk =>
    intro all bound h1 h2 h3 h4
    have hin := sizeT_in d k (bound - all) (by omega)
    unfold sizeKs at h4 ⊢
    by_cases hgt : all + sizeT d k (bound - all) > bound
    · rw [if_pos hgt] at h4; omega
    · rw [if_neg hgt] at h4 ⊢
      obtain ⟨h5, h6⟩ := ih k (bound - all) (by omega) (by omega)
      obtain ⟨h7, h8⟩ := ihk (all + sizeT d k (bound - all)) bound (by omega) h2 (by omega) h4
      refine ⟨fun x hx => ?_, ?_⟩
      · rcases List.mem_cons.1 hx with rfl | hx
        · exact h5
        · exact h7 x hx
      · simp only [List.map_cons, List.sum_cons]
        omega

theorem size_says (d : Nat) : ∀ t b, b ≤ 200 → sizeT d t b ≤ 200 → Dep d t ∧ (cnt d t : Int) ≤ sizeT d t b := by
  induction d with
  | zero => intro t b _ h; exact absurd h (by show ¬ (201 : Int) ≤ 200; decide)
  | succ d ih =>
    intro t b hb h
    cases t with
    | mk kind text num kids =>
      unfold sizeT at h ⊢
      by_cases h0 : b ≤ 0
      · rw [if_pos h0] at h; omega
      · rw [if_neg h0] at h ⊢
        obtain ⟨h1, h2⟩ := size_ks d ih kids 1 b (by omega) hb (by decide) h
        refine ⟨h1, ?_⟩
        simp only [cnt]
        omega

set_option maxHeartbeats 1000000 in
theorem small_any (t : NT) (kind text : ByteArray) (num : Int) (a : Option Addr) (n cap : Nat) (w : World) (h : NV w [.string kind, .string text, .int .i64 num, .slice a n cap] t) :
    Calls Tryz.prog 5 #[.agg #[.string kind, .string text, .int .i64 num, .slice a n cap]] w (SaysIf (sizeT 24 t 200 ≤ 200) w) := by
  have HC := Lib.hid (size_any 24 _ t 200 _ (h.keep (below_new w (.cells #[.string kind, .string text, .int .i64 num, .slice a n cap] 24))) (Nat.le_refl _) (by decide) (by decide))
  have HW := Lib.hid (below_new w (.cells #[.string kind, .string text, .int .i64 num, .slice a n cap] 24))
  clear h
  go_enter Tryz.func5, Tryz.ntmps5
  go_wp2_with fail
  refine Calls.mono HC.out ?_
  rintro e w1 ⟨rfl, hb⟩
  have HB := Lib.hid (behind HW.out hb)
  clear hb
  generalize sizeT 24 t 200 = z at *
  go_wp2_with fail
  go_ret
  exact ⟨_, rfl, fun h => by simpa using h, HB.out⟩

theorem told_reads {w w' : World} {lo : Nat} {v : Value} {xs : List ByteArray} (h : w.ownsRow lo 9 1 v xs.length (xs.map Value.string)) (hb : Below w.heap.size w w') : Reads w' v xs xs.length := by
  have h0 := h
  rcases h.2 with ⟨rfl, e⟩ | ⟨g, cap, cur, rfl, _, hg, _⟩
  · rw [e]; exact ⟨e.symm, none, 0, rfl, fun h => by omega⟩
  · refine ⟨rfl, _, cap, rfl, fun _ => ⟨g, rfl, fun i hi => ?_⟩⟩
    rw [hb.cell (p := ⟨g, i, none⟩) (lt_of_block hg), h0.cellAt i (by omega)]
    simp [List.getD, hi]

/-- True; nothing that was there has turned. -/
def Yes (w : World) (e : Ending) (w' : World) : Prop := e = .returned (.bool true) ∧ Below w.heap.size w w'

set_option maxRecDepth 100000 in
set_option maxHeartbeats 16000000 in
theorem law_any (t : NT) (kind text : ByteArray) (num : Int) (a : Option Addr) (n cap : Nat) (stop : ByteArray) (w : World) (h : NV w [.string kind, .string text, .int .i64 num, .slice a n cap] t) (ht : Tabs w) :
    Calls Tryz.prog 3 #[.agg #[.string kind, .string text, .int .i64 num, .slice a n cap], .string stop] w (Yes w) := by
  obtain ⟨kids, et, hz1, hz2, hn, hm, hk⟩ := h.kids
  have HZ1 := Lib.hid hz1
  have HZ2 := Lib.hid hz2
  have HM := Lib.hid hm
  have HX := Lib.hid (box_at h)
  have HT := Lib.hid (ht.keep (below_new w (.cells #[.string kind, .string text, .int .i64 num, .slice a n cap] 24)))
  have HW := Lib.hid (below_new w (.cells #[.string kind, .string text, .int .i64 num, .slice a n cap] 24))
  clear et hz1 hz2 hn hm hk h ht
  go_enter Tryz.func3, Tryz.ntmps3
  go_wp2_with fail
  refine (fits2_any _ _ _ _ _ _ _ HZ1.out HZ2.out HM.out).mono ?_
  rintro e w1 ⟨rfl, hb1⟩
  have HX1 := Lib.hid (HX.out.keep hb1)
  have HT1 := Lib.hid (HT.out.keep hb1)
  have HW1 := Lib.hid (behind HW.out hb1)
  clear hb1
  generalize (decide (kind.size ≤ 2147483647) && decide (text.size ≤ 2147483647) && decide (n ≤ 2147483647)) = b1 at *
  cases b1 with
  | false =>
    go_wp2_with fail
    go_ret
    exact ⟨rfl, HW1.out⟩
  | true =>
  by_cases hst : (2147483647 : Int) < (stop.size : Int)
  · go_wp2_with fail
    go_ret
    exact ⟨rfl, HW1.out⟩
  have hst2 : decide ((2147483647 : Int) < (stop.size : Int)) = false := by simpa using hst
  obtain ⟨x0, x1, x2, x3⟩ := HX1.out.box
  go_wp2_with fail
  refine (small_any t _ _ _ _ _ _ _ HX1.out.nv).mono ?_
  rintro e w2 ⟨b2, rfl, hp2, hb2⟩
  have HP2 := Lib.hid hp2
  have HX2 := Lib.hid (HX1.out.keep hb2)
  have HT2 := Lib.hid (HT1.out.keep hb2)
  have HW2 := Lib.hid (behind HW1.out hb2)
  clear hb2 hp2 x0 x1 x2 x3
  cases b2 with
  | false =>
    go_wp2_with fail
    go_ret
    exact ⟨rfl, HW2.out⟩
  | true =>
  obtain ⟨hdep, hcnt⟩ := size_says 24 t 200 (by decide) (HP2.out (by simp))
  have HC := Lib.hid (show cnt 24 t ≤ 200 by have := HP2.out (by simp); omega)
  have HD := Lib.hid hdep
  clear hdep hcnt
  obtain ⟨x0, x1, x2, x3⟩ := HX2.out.box
  go_wp2_with fail
  refine ((isEncoding_any 23).at HX2.out HT2.out HD.out).mono ?_
  rintro e w3 ⟨b3, rfl, hp3, hb3⟩
  have HP3 := Lib.hid hp3
  have HX3 := Lib.hid (HX2.out.keep hb3)
  have HW3 := Lib.hid (behind HW2.out hb3)
  clear hb3 hp3 x0 x1 x2 x3
  cases b3 with
  | false =>
    go_wp2_with fail
    go_ret
    exact ⟨rfl, HW3.out⟩
  | true =>
  have HG := Lib.hid (HP3.out (by simp))
  have hlen : (kindsN stop 24 t).length ≤ 1000 := by have h1 := kinds_len stop 24 t; have h2 := HC.out; omega
  have HL := Lib.hid hlen
  clear hlen
  have HKW := Lib.hid (fun w' (hb : Below w3.heap.size w3 w') => walk_any 24 t _ _ _ _ _ _ stop w' (HX3.out.keep hb).nv HD.out HG.out HC.out)
  have HKK := Lib.hid (fun w' (hb : Below w3.heap.size w3 w') => kinds_any 24 t _ _ _ _ _ _ stop w' (HX3.out.keep hb).nv HD.out (.inl HG.out) HC.out)
  have BX0 := Lib.hid HX3.out.box
  obtain ⟨x0, x1, x2, x3⟩ := HX3.out.box
  have HB0 := Lib.hid (Below.drew (Below.refl w3.heap.size w3))
  go_wp2_with fail
  go_region_held3 (fun w' => w'.cell? ⟨w.heap.size, 0, none⟩ = some (.string kind) ∧ w'.cell? ⟨w.heap.size, 1, none⟩ = some (.string text) ∧ w'.cell? ⟨w.heap.size, 2, none⟩ = some (.int .i64 num) ∧ w'.cell? ⟨w.heap.size, 3, none⟩ = some (.slice a n cap)) (first | exact BX0.out | exact BXG.out | exact BXF.out | exact BXA.out | exact BXB.out | go_keep) (first
    | (go_at_call 8; refine (HKW.out _ ?_).mono ?_; (first | exact HBB.out | exact HB0.out); rintro e wA ⟨vA, rfl, hA, hbA⟩
       (first
         | (have HBF := Lib.hid (behind HBB.out hbA); have BXF := Lib.hid (HX3.out.keep HBF.out).box; have HR := Lib.hid (And.intro (told_reads hA (Below.refl _ _)) (told_reads HB9.out hbA)))
         | (have HBA := Lib.hid (behind HB0.out hbA); have BXA := Lib.hid (HX3.out.keep HBA.out).box; have HA9 := Lib.hid hA))
       clear hA hbA)
    | (go_at_call 9; refine (HKK.out _ ?_).mono ?_; (first | exact HBA.out | exact HB0.out); rintro e wB ⟨vB, rfl, hB, hbB⟩
       (first
         | (have HBF := Lib.hid (behind HBA.out hbB); have BXF := Lib.hid (HX3.out.keep HBF.out).box; have HR := Lib.hid (And.intro (told_reads HA9.out hbB) (told_reads hB (Below.refl _ _))))
         | (have HBB := Lib.hid (behind HB0.out hbB); have BXB := Lib.hid (HX3.out.keep HBB.out).box; have HB9 := Lib.hid hB))
       clear hB hbB)
    | (go_at_call 7; refine (alike_any (kindsN stop 24 t) _ _ _ _ HL.out HR.out.1 HR.out.2).mono ?_; rintro e wC ⟨rfl, hwC⟩
       subst hwC
       have BXG := Lib.hid BXF.out))
  all_goals
    go_wp2_with fail
    go_ret
    exact ⟨rfl, behind HW3.out HBF.out⟩

end Go.Proofs.YtdlhhdhooacogaaGreatDoor

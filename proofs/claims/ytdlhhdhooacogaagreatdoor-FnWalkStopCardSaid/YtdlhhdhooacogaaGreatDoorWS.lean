/-
  IsType at what is not plain, behind the kind of a type with qualifiers.
-/
import Derived.Test.YtdlhhdhooacogaaGreatDoorWP
namespace Go.Proofs.YtdlhhdhooacogaaGreatDoor
open Go.RowKit

set_option maxHeartbeats 1000000 in
theorem plain_no (kind text : ByteArray) (num : Int) (a : Option Addr) (n cap : Nat) (k : Nat) (w : World) (h : ¬ (text.toList.isEmpty = true ∧ num = 0 ∧ n = k)) :
    Calls Tryz.prog 17 #[.agg #[.string kind, .string text, .int .i64 num, .slice a n cap], .int .i64 k] w (Says false w) := by
  rcases bt text.toList.isEmpty with q | q
  · by_cases h0 : num = 0
    · subst h0
      have hk : ¬ n = k := fun e => h ⟨q, rfl, e⟩
      have hk2 : ((n : Int) == (k : Int)) = false := by simp; omega
      clear h
      go_enter Tryz.func17, Tryz.ntmps17
      go_wp2_with fail
      go_ret
      exact ⟨rfl, below_new _ _⟩
    · have q0 : (num == 0) = false := by simpa using h0
      clear h
      go_enter Tryz.func17, Tryz.ntmps17
      go_wp2_with fail
      go_ret
      exact ⟨rfl, below_new _ _⟩
  · clear h
    go_enter Tryz.func17, Tryz.ntmps17
    go_wp2_with fail
    go_ret
    exact ⟨rfl, below_new _ _⟩

set_option maxRecDepth 100000 in
set_option maxHeartbeats 8000000 in
theorem isType_twq_no (P : Prop) (t : NT) (text : ByteArray) (num : Int) (a : Option Addr) (n cap : Nat) (w : World) (h : NV w [.string ⟨#[84, 121, 112, 101, 87, 105, 116, 104, 81, 117, 97, 108, 105, 102, 105, 101, 114, 115]⟩, .string text, .int .i64 num, .slice a n cap] t) (hne : ¬ (text.toList.isEmpty = true ∧ num = 0 ∧ n = 2)) :
    Calls Tryz.prog 38 #[.agg #[.string ⟨#[84, 121, 112, 101, 87, 105, 116, 104, 81, 117, 97, 108, 105, 102, 105, 101, 114, 115]⟩, .string text, .int .i64 num, .slice a n cap]] w (SaysIf P w) := by
  have HB0 := Lib.hid (box_at h)
  have HW0 := Lib.hid (below_new w (.cells #[.string ⟨#[84, 121, 112, 101, 87, 105, 116, 104, 81, 117, 97, 108, 105, 102, 105, 101, 114, 115]⟩, .string text, .int .i64 num, .slice a n cap] 24))
  have HNE := Lib.hid hne
  clear h hne
  go_enter Tryz.func38, Tryz.ntmps38
  go_wp2_with fail
  generalize (w.alloc (.cells #[.string ⟨#[84, 121, 112, 101, 87, 105, 116, 104, 81, 117, 97, 108, 105, 102, 105, 101, 114, 115]⟩, .string text, .int .i64 num, .slice a n cap] 24)) = w0 at *
  obtain ⟨xb0, xb1, xb2, xb3⟩ := HB0.out.box
  refine wp_region_any (by kernel_rfl) ?_
  change wpAny _ _ _ _ _ _ _ (World.drew _)
  refine wpAny_ready (rs := [0]) (by kernel_rfl) (by simp) ?_
  refine AllReady.cons rfl (fun K hK => ?_) AllReady.nil
  go_simp
  refine hK _ _ ?_
  clear hK K
  refine wpAny_ready (rs := [1]) (by kernel_rfl) (by simp) ?_
  refine AllReady.cons rfl (fun K hK => ?_) AllReady.nil
  go_simp
  refine (plain_no _ _ _ _ _ _ 2 _ HNE.out).mono ?_
  rintro e w1 ⟨rfl, hb1⟩
  have hb1 := undrew hb1
  have HW1 := Lib.hid (behind HW0.out hb1)
  clear hb1
  go_wp2_with fail
  refine wpAny_take (i := 2) (v := .bool false) rfl (by kernel_rfl) (by kernel_rfl) (by kernel_rfl) (fun _ _ _ h => h) (.inl ⟨by kernel_rfl, fun _ => by kernel_rfl⟩) ?_
  refine wpAny_take (i := 3) (v := undef) rfl (by kernel_rfl) (by kernel_rfl) (by kernel_rfl) (fun _ _ _ h => h) (.inr ⟨by kernel_rfl, rfl⟩) ?_
  refine wpAny_take (i := 4) (v := undef) rfl (by kernel_rfl) (by kernel_rfl) (by kernel_rfl) (fun _ _ _ h => h) (.inr ⟨by kernel_rfl, rfl⟩) ?_
  refine wpAny_take (i := 5) (v := undef) rfl (by kernel_rfl) (by kernel_rfl) (by kernel_rfl) (fun _ _ _ h => h) (.inr ⟨by kernel_rfl, rfl⟩) ?_
  refine wpAny_take (i := 6) (v := undef) rfl (by kernel_rfl) (by kernel_rfl) (by kernel_rfl) (fun _ _ _ h => h) (.inr ⟨by kernel_rfl, rfl⟩) ?_
  refine wpAny_take (i := 7) (v := undef) rfl (by kernel_rfl) (by kernel_rfl) (by kernel_rfl) (fun _ _ _ h => h) (.inr ⟨by kernel_rfl, rfl⟩) ?_
  refine wpAny_take (i := 8) (v := .bool false) rfl (by kernel_rfl) (by kernel_rfl) (by kernel_rfl) (fun _ _ _ h => h) (.inl ⟨by kernel_rfl, fun _ => by kernel_rfl⟩) ?_
  refine wpAny_take (i := 9) (v := .bool false) rfl (by kernel_rfl) (by kernel_rfl) (by kernel_rfl) (fun _ _ _ h => h) (.inl ⟨by kernel_rfl, fun _ => by kernel_rfl⟩) ?_
  refine wpAny_take (i := 10) (v := undef) rfl (by kernel_rfl) (by kernel_rfl) (by kernel_rfl) (fun _ _ _ h => h) (.inr ⟨by kernel_rfl, rfl⟩) ?_
  refine wpAny_take (i := 11) (v := undef) rfl (by kernel_rfl) (by kernel_rfl) (by kernel_rfl) (fun _ _ _ h => h) (.inr ⟨by kernel_rfl, rfl⟩) ?_
  refine wpAny_take (i := 12) (v := undef) rfl (by kernel_rfl) (by kernel_rfl) (by kernel_rfl) (fun _ _ _ h => h) (.inr ⟨by kernel_rfl, rfl⟩) ?_
  refine wpAny_take (i := 13) (v := undef) rfl (by kernel_rfl) (by kernel_rfl) (by kernel_rfl) (fun _ _ _ h => h) (.inr ⟨by kernel_rfl, rfl⟩) ?_
  refine wpAny_take (i := 14) (v := undef) rfl (by kernel_rfl) (by kernel_rfl) (by kernel_rfl) (fun _ _ _ h => h) (.inr ⟨by kernel_rfl, rfl⟩) ?_
  refine wpAny_take (i := 15) (v := undef) rfl (by kernel_rfl) (by kernel_rfl) (by kernel_rfl) (fun _ _ _ h => h) (.inr ⟨by kernel_rfl, rfl⟩) ?_
  refine wpAny_take (i := 16) (v := undef) rfl (by kernel_rfl) (by kernel_rfl) (by kernel_rfl) (fun _ _ _ h => h) (.inr ⟨by kernel_rfl, rfl⟩) ?_
  refine wpAny_take (i := 17) (v := undef) rfl (by kernel_rfl) (by kernel_rfl) (by kernel_rfl) (fun _ _ _ h => h) (.inr ⟨by kernel_rfl, rfl⟩) ?_
  refine wpAny_take (i := 18) (v := undef) rfl (by kernel_rfl) (by kernel_rfl) (by kernel_rfl) (fun _ _ _ h => h) (.inr ⟨by kernel_rfl, rfl⟩) ?_
  refine wpAny_take (i := 19) (v := undef) rfl (by kernel_rfl) (by kernel_rfl) (by kernel_rfl) (fun _ _ _ h => h) (.inr ⟨by kernel_rfl, rfl⟩) ?_
  refine wpAny_take (i := 20) (v := undef) rfl (by kernel_rfl) (by kernel_rfl) (by kernel_rfl) (fun _ _ _ h => h) (.inr ⟨by kernel_rfl, rfl⟩) ?_
  refine wpAny_take (i := 21) (v := .bool false) rfl (by kernel_rfl) (by kernel_rfl) (by kernel_rfl) (fun _ _ _ h => h) (.inl ⟨by kernel_rfl, fun _ => by kernel_rfl⟩) ?_
  refine wpAny_take (i := 22) (v := .bool false) rfl (by kernel_rfl) (by kernel_rfl) (by kernel_rfl) (fun _ _ _ h => h) (.inl ⟨by kernel_rfl, fun _ => by kernel_rfl⟩) ?_
  refine wpAny_done (by kernel_rfl) ?_ _
  go_wp2_with fail
  go_simp
  go_ret
  exact .no HW1.out

end Go.Proofs.YtdlhhdhooacogaaGreatDoor

/-
  treeOf at elements of two (the first kinds).
-/
import Derived.Test.YtdlhhdhooacogaaGreatDoorYI
namespace Go.Proofs.YtdlhhdhooacogaaGreatDoor
open Go.RowKit

set_option maxRecDepth 100000 in
set_option maxHeartbeats 16000000 in
theorem to_Qualified (k l : NT) (ks ks2 : ByteArray → List ByteArray) (hT : TreeC (Elem ks) k) (hT2 : TreeC (Elem ks2) l) (text : ByteArray) (num : Int) (a : Option Addr) (n cap : Nat) (w : World) (h : NV w [.string ⟨#[81, 117, 97, 108, 105, 102, 105, 101, 100]⟩, .string text, .int .i64 num, .slice a n cap] (.mk ⟨#[81, 117, 97, 108, 105, 102, 105, 101, 100]⟩ text num [k, l])) :
    Calls Tryz.prog 14 #[.agg #[.string ⟨#[81, 117, 97, 108, 105, 102, 105, 101, 100]⟩, .string text, .int .i64 num, .slice a n cap]] w (Made (Elem fun stop => ⟨#[81, 117, 97, 108, 105, 102, 105, 101, 100]⟩ :: (if (⟨#[81, 117, 97, 108, 105, 102, 105, 101, 100]⟩ : ByteArray) = stop then [] else ks stop ++ ks2 stop)) w) := by
  have HKA := Lib.hid (fun w' (hb : Below (w.alloc (.cells #[.string ⟨#[81, 117, 97, 108, 105, 102, 105, 101, 100]⟩, .string text, .int .i64 num, .slice a n cap] 24)).heap.size (w.alloc (.cells #[.string ⟨#[81, 117, 97, 108, 105, 102, 105, 101, 100]⟩, .string text, .int .i64 num, .slice a n cap] 24)) w') => kid_of (Elem ks) [k, l] 0 (by simp) hT _ _ _ _ _ _ w' ((box_at h).nv.keep hb))
  have HKB := Lib.hid (fun w' (hb : Below (w.alloc (.cells #[.string ⟨#[81, 117, 97, 108, 105, 102, 105, 101, 100]⟩, .string text, .int .i64 num, .slice a n cap] 24)).heap.size (w.alloc (.cells #[.string ⟨#[81, 117, 97, 108, 105, 102, 105, 101, 100]⟩, .string text, .int .i64 num, .slice a n cap] 24)) w') => kid_of (Elem ks2) [k, l] 1 (by simp) hT2 _ _ _ _ _ _ w' ((box_at h).nv.keep hb))
  clear hT hT2
  have HX := Lib.hid (box_at h)
  have HW := Lib.hid (below_new w (.cells #[.string ⟨#[81, 117, 97, 108, 105, 102, 105, 101, 100]⟩, .string text, .int .i64 num, .slice a n cap] 24))
  clear h
  go_enter Tryz.func14, Tryz.ntmps14
  go_wp2_with fail
  generalize (w.alloc (.cells #[.string ⟨#[81, 117, 97, 108, 105, 102, 105, 101, 100]⟩, .string text, .int .i64 num, .slice a n cap] 24)) = w0 at *
  have BX0 := Lib.hid HX.out.box
  have hbx := HX.out.box
  have HB0 := Lib.hid (Below.drew (Below.refl w0.heap.size w0))
  go_region_held3 (fun w' => w'.cell? ⟨w.heap.size, 0, none⟩ = some (.string ⟨#[81, 117, 97, 108, 105, 102, 105, 101, 100]⟩) ∧ w'.cell? ⟨w.heap.size, 1, none⟩ = some (.string text) ∧ w'.cell? ⟨w.heap.size, 2, none⟩ = some (.int .i64 num) ∧ w'.cell? ⟨w.heap.size, 3, none⟩ = some (.slice a n cap)) (first | exact BX0.out | exact BXF.out | exact BXA.out | exact BXB.out | go_keep) (first
    | (go_at_call_of 30 (Value.int IntKind.i64 0); refine (HKA.out _ ?_).mono ?_; (first | exact HBB.out | exact HB0.out); rintro e wA ⟨vA, SA, rfl, _, hSA, hEA, hbA⟩
       obtain ⟨TA, bA, rfl⟩ := hEA.shape (fun k hk => (hSA k hk).2)
       have HEA := Lib.hid hEA
       have HSA := Lib.hid hSA
       (first
         | (have HBF := Lib.hid (behind HBB.out hbA); have BXF := Lib.hid (HX.out.keep HBF.out).box; have HPB := Lib.hid (show Below wB.heap.size wB wA from hbA))
         | (have HBA := Lib.hid (behind HB0.out hbA); have BXA := Lib.hid (HX.out.keep HBA.out).box))
       clear hEA hbA hSA)
    | (go_at_call_of 30 (Value.int IntKind.i64 1); refine (HKB.out _ ?_).mono ?_; (first | exact HBA.out | exact HB0.out); rintro e wB ⟨vB, SB, rfl, _, hSB, hEB, hbB⟩
       obtain ⟨TB, bB, rfl⟩ := hEB.shape (fun k hk => (hSB k hk).2)
       have HEB := Lib.hid hEB
       have HSB := Lib.hid hSB
       (first
         | (have HBF := Lib.hid (behind HBA.out hbB); have BXF := Lib.hid (HX.out.keep HBF.out).box; have HPA := Lib.hid (show Below wA.heap.size wA wB from hbB))
         | (have HBB := Lib.hid (behind HB0.out hbB); have BXB := Lib.hid (HX.out.keep HBB.out).box))
       clear hEB hbB hSB))
  all_goals
    go_wp2_with fail
    go_ret
    first
    | exact mk_Qualified (behind HW.out HBF.out) rfl (fun k hk => by have h1 := HSA.out k hk; have h2 := HB0.out.size; have h3 := HW.out.size; have h4 := HPA.out.size; omega) ((Elem.kept _).below HEA.out (fun k hk => (HSA.out k hk).2) HPA.out) rfl (fun k hk => by have h1 := HSB.out k hk; have h2 := HBA.out.size; have h3 := HW.out.size; omega) HEB.out rfl
    | exact mk_Qualified (behind HW.out HBF.out) rfl (fun k hk => by have h1 := HSA.out k hk; have h2 := HBB.out.size; have h3 := HW.out.size; omega) HEA.out rfl (fun k hk => by have h1 := HSB.out k hk; have h2 := HB0.out.size; have h3 := HW.out.size; have h4 := HPB.out.size; omega) ((Elem.kept _).below HEB.out (fun k hk => (HSB.out k hk).2) HPB.out) rfl

set_option maxRecDepth 100000 in
set_option maxHeartbeats 16000000 in
theorem to_Typed (k l : NT) (ks ks2 : ByteArray → List ByteArray) (hT : TreeC (Elem ks) k) (hT2 : TreeC (Elem ks2) l) (text : ByteArray) (num : Int) (a : Option Addr) (n cap : Nat) (w : World) (h : NV w [.string ⟨#[84, 121, 112, 101, 100]⟩, .string text, .int .i64 num, .slice a n cap] (.mk ⟨#[84, 121, 112, 101, 100]⟩ text num [k, l])) :
    Calls Tryz.prog 14 #[.agg #[.string ⟨#[84, 121, 112, 101, 100]⟩, .string text, .int .i64 num, .slice a n cap]] w (Made (Elem fun stop => ⟨#[84, 121, 112, 101, 100]⟩ :: (if (⟨#[84, 121, 112, 101, 100]⟩ : ByteArray) = stop then [] else ks stop ++ ks2 stop)) w) := by
  have HKA := Lib.hid (fun w' (hb : Below (w.alloc (.cells #[.string ⟨#[84, 121, 112, 101, 100]⟩, .string text, .int .i64 num, .slice a n cap] 24)).heap.size (w.alloc (.cells #[.string ⟨#[84, 121, 112, 101, 100]⟩, .string text, .int .i64 num, .slice a n cap] 24)) w') => kid_of (Elem ks) [k, l] 0 (by simp) hT _ _ _ _ _ _ w' ((box_at h).nv.keep hb))
  have HKB := Lib.hid (fun w' (hb : Below (w.alloc (.cells #[.string ⟨#[84, 121, 112, 101, 100]⟩, .string text, .int .i64 num, .slice a n cap] 24)).heap.size (w.alloc (.cells #[.string ⟨#[84, 121, 112, 101, 100]⟩, .string text, .int .i64 num, .slice a n cap] 24)) w') => kid_of (Elem ks2) [k, l] 1 (by simp) hT2 _ _ _ _ _ _ w' ((box_at h).nv.keep hb))
  clear hT hT2
  have HX := Lib.hid (box_at h)
  have HW := Lib.hid (below_new w (.cells #[.string ⟨#[84, 121, 112, 101, 100]⟩, .string text, .int .i64 num, .slice a n cap] 24))
  clear h
  go_enter Tryz.func14, Tryz.ntmps14
  go_wp2_with fail
  generalize (w.alloc (.cells #[.string ⟨#[84, 121, 112, 101, 100]⟩, .string text, .int .i64 num, .slice a n cap] 24)) = w0 at *
  have BX0 := Lib.hid HX.out.box
  have hbx := HX.out.box
  have HB0 := Lib.hid (Below.drew (Below.refl w0.heap.size w0))
  go_region_held3 (fun w' => w'.cell? ⟨w.heap.size, 0, none⟩ = some (.string ⟨#[84, 121, 112, 101, 100]⟩) ∧ w'.cell? ⟨w.heap.size, 1, none⟩ = some (.string text) ∧ w'.cell? ⟨w.heap.size, 2, none⟩ = some (.int .i64 num) ∧ w'.cell? ⟨w.heap.size, 3, none⟩ = some (.slice a n cap)) (first | exact BX0.out | exact BXF.out | exact BXA.out | exact BXB.out | go_keep) (first
    | (go_at_call_of 30 (Value.int IntKind.i64 0); refine (HKA.out _ ?_).mono ?_; (first | exact HBB.out | exact HB0.out); rintro e wA ⟨vA, SA, rfl, _, hSA, hEA, hbA⟩
       obtain ⟨TA, bA, rfl⟩ := hEA.shape (fun k hk => (hSA k hk).2)
       have HEA := Lib.hid hEA
       have HSA := Lib.hid hSA
       (first
         | (have HBF := Lib.hid (behind HBB.out hbA); have BXF := Lib.hid (HX.out.keep HBF.out).box; have HPB := Lib.hid (show Below wB.heap.size wB wA from hbA))
         | (have HBA := Lib.hid (behind HB0.out hbA); have BXA := Lib.hid (HX.out.keep HBA.out).box))
       clear hEA hbA hSA)
    | (go_at_call_of 30 (Value.int IntKind.i64 1); refine (HKB.out _ ?_).mono ?_; (first | exact HBA.out | exact HB0.out); rintro e wB ⟨vB, SB, rfl, _, hSB, hEB, hbB⟩
       obtain ⟨TB, bB, rfl⟩ := hEB.shape (fun k hk => (hSB k hk).2)
       have HEB := Lib.hid hEB
       have HSB := Lib.hid hSB
       (first
         | (have HBF := Lib.hid (behind HBA.out hbB); have BXF := Lib.hid (HX.out.keep HBF.out).box; have HPA := Lib.hid (show Below wA.heap.size wA wB from hbB))
         | (have HBB := Lib.hid (behind HB0.out hbB); have BXB := Lib.hid (HX.out.keep HBB.out).box))
       clear hEB hbB hSB))
  all_goals
    go_wp2_with fail
    go_ret
    first
    | exact mk_Typed (behind HW.out HBF.out) rfl (fun k hk => by have h1 := HSA.out k hk; have h2 := HB0.out.size; have h3 := HW.out.size; have h4 := HPA.out.size; omega) ((Elem.kept _).below HEA.out (fun k hk => (HSA.out k hk).2) HPA.out) rfl (fun k hk => by have h1 := HSB.out k hk; have h2 := HBA.out.size; have h3 := HW.out.size; omega) HEB.out rfl
    | exact mk_Typed (behind HW.out HBF.out) rfl (fun k hk => by have h1 := HSA.out k hk; have h2 := HBB.out.size; have h3 := HW.out.size; omega) HEA.out rfl (fun k hk => by have h1 := HSB.out k hk; have h2 := HB0.out.size; have h3 := HW.out.size; have h4 := HPB.out.size; omega) ((Elem.kept _).below HEB.out (fun k hk => (HSB.out k hk).2) HPB.out) rfl

set_option maxRecDepth 100000 in
set_option maxHeartbeats 16000000 in
theorem to_ArrayType (k l : NT) (ks ks2 : ByteArray → List ByteArray) (hT : TreeC (Elem ks) k) (hT2 : TreeC (Elem ks2) l) (text : ByteArray) (num : Int) (a : Option Addr) (n cap : Nat) (w : World) (h : NV w [.string ⟨#[65, 114, 114, 97, 121, 84, 121, 112, 101]⟩, .string text, .int .i64 num, .slice a n cap] (.mk ⟨#[65, 114, 114, 97, 121, 84, 121, 112, 101]⟩ text num [k, l])) :
    Calls Tryz.prog 32 #[.agg #[.string ⟨#[65, 114, 114, 97, 121, 84, 121, 112, 101]⟩, .string text, .int .i64 num, .slice a n cap]] w (Made (Elem fun stop => ⟨#[65, 114, 114, 97, 121, 84, 121, 112, 101]⟩ :: (if (⟨#[65, 114, 114, 97, 121, 84, 121, 112, 101]⟩ : ByteArray) = stop then [] else ks stop ++ ks2 stop)) w) := by
  have HKA := Lib.hid (fun w' (hb : Below (w.alloc (.cells #[.string ⟨#[65, 114, 114, 97, 121, 84, 121, 112, 101]⟩, .string text, .int .i64 num, .slice a n cap] 24)).heap.size (w.alloc (.cells #[.string ⟨#[65, 114, 114, 97, 121, 84, 121, 112, 101]⟩, .string text, .int .i64 num, .slice a n cap] 24)) w') => kid_of (Elem ks) [k, l] 0 (by simp) hT _ _ _ _ _ _ w' ((box_at h).nv.keep hb))
  have HKB := Lib.hid (fun w' (hb : Below (w.alloc (.cells #[.string ⟨#[65, 114, 114, 97, 121, 84, 121, 112, 101]⟩, .string text, .int .i64 num, .slice a n cap] 24)).heap.size (w.alloc (.cells #[.string ⟨#[65, 114, 114, 97, 121, 84, 121, 112, 101]⟩, .string text, .int .i64 num, .slice a n cap] 24)) w') => kid_of (Elem ks2) [k, l] 1 (by simp) hT2 _ _ _ _ _ _ w' ((box_at h).nv.keep hb))
  clear hT hT2
  have HX := Lib.hid (box_at h)
  have HW := Lib.hid (below_new w (.cells #[.string ⟨#[65, 114, 114, 97, 121, 84, 121, 112, 101]⟩, .string text, .int .i64 num, .slice a n cap] 24))
  clear h
  go_enter Tryz.func32, Tryz.ntmps32
  go_wp2_with fail
  generalize (w.alloc (.cells #[.string ⟨#[65, 114, 114, 97, 121, 84, 121, 112, 101]⟩, .string text, .int .i64 num, .slice a n cap] 24)) = w0 at *
  have BX0 := Lib.hid HX.out.box
  have hbx := HX.out.box
  have HB0 := Lib.hid (Below.drew (Below.refl w0.heap.size w0))
  go_region_held3 (fun w' => w'.cell? ⟨w.heap.size, 0, none⟩ = some (.string ⟨#[65, 114, 114, 97, 121, 84, 121, 112, 101]⟩) ∧ w'.cell? ⟨w.heap.size, 1, none⟩ = some (.string text) ∧ w'.cell? ⟨w.heap.size, 2, none⟩ = some (.int .i64 num) ∧ w'.cell? ⟨w.heap.size, 3, none⟩ = some (.slice a n cap)) (first | exact BX0.out | exact BXF.out | exact BXA.out | exact BXB.out | go_keep) (first
    | (go_at_call_of 30 (Value.int IntKind.i64 0); refine (HKA.out _ ?_).mono ?_; (first | exact HBB.out | exact HB0.out); rintro e wA ⟨vA, SA, rfl, _, hSA, hEA, hbA⟩
       obtain ⟨TA, bA, rfl⟩ := hEA.shape (fun k hk => (hSA k hk).2)
       have HEA := Lib.hid hEA
       have HSA := Lib.hid hSA
       (first
         | (have HBF := Lib.hid (behind HBB.out hbA); have BXF := Lib.hid (HX.out.keep HBF.out).box; have HPB := Lib.hid (show Below wB.heap.size wB wA from hbA))
         | (have HBA := Lib.hid (behind HB0.out hbA); have BXA := Lib.hid (HX.out.keep HBA.out).box))
       clear hEA hbA hSA)
    | (go_at_call_of 30 (Value.int IntKind.i64 1); refine (HKB.out _ ?_).mono ?_; (first | exact HBA.out | exact HB0.out); rintro e wB ⟨vB, SB, rfl, _, hSB, hEB, hbB⟩
       obtain ⟨TB, bB, rfl⟩ := hEB.shape (fun k hk => (hSB k hk).2)
       have HEB := Lib.hid hEB
       have HSB := Lib.hid hSB
       (first
         | (have HBF := Lib.hid (behind HBA.out hbB); have BXF := Lib.hid (HX.out.keep HBF.out).box; have HPA := Lib.hid (show Below wA.heap.size wA wB from hbB))
         | (have HBB := Lib.hid (behind HB0.out hbB); have BXB := Lib.hid (HX.out.keep HBB.out).box))
       clear hEB hbB hSB))
  all_goals
    go_wp2_with fail
    go_ret
    first
    | exact mk_ArrayType (behind HW.out HBF.out) rfl (fun k hk => by have h1 := HSA.out k hk; have h2 := HB0.out.size; have h3 := HW.out.size; have h4 := HPA.out.size; omega) ((Elem.kept _).below HEA.out (fun k hk => (HSA.out k hk).2) HPA.out) rfl (fun k hk => by have h1 := HSB.out k hk; have h2 := HBA.out.size; have h3 := HW.out.size; omega) HEB.out rfl
    | exact mk_ArrayType (behind HW.out HBF.out) rfl (fun k hk => by have h1 := HSA.out k hk; have h2 := HBB.out.size; have h3 := HW.out.size; omega) HEA.out rfl (fun k hk => by have h1 := HSB.out k hk; have h2 := HB0.out.size; have h3 := HW.out.size; have h4 := HPB.out.size; omega) ((Elem.kept _).below HEB.out (fun k hk => (HSB.out k hk).2) HPB.out) rfl

end Go.Proofs.YtdlhhdhooacogaaGreatDoor

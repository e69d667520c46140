/-
  treeOf at types and methods with qualifiers.
-/
import Derived.Test.YtdlhhdhooacogaaGreatDoorYI
namespace Go.Proofs.YtdlhhdhooacogaaGreatDoor
open Go.RowKit

set_option maxRecDepth 100000 in
set_option maxHeartbeats 16000000 in
theorem to_TypeWithQualifiersNil (k l : NT) (ks : ByteArray → List ByteArray) (hT : TreeC (Elem ks) k) (hT2 : TreeC NilE l) (text : ByteArray) (num : Int) (a : Option Addr) (n cap : Nat) (w : World) (h : NV w [.string ⟨#[84, 121, 112, 101, 87, 105, 116, 104, 81, 117, 97, 108, 105, 102, 105, 101, 114, 115]⟩, .string text, .int .i64 num, .slice a n cap] (.mk ⟨#[84, 121, 112, 101, 87, 105, 116, 104, 81, 117, 97, 108, 105, 102, 105, 101, 114, 115]⟩ text num [k, l])) :
    Calls Tryz.prog 14 #[.agg #[.string ⟨#[84, 121, 112, 101, 87, 105, 116, 104, 81, 117, 97, 108, 105, 102, 105, 101, 114, 115]⟩, .string text, .int .i64 num, .slice a n cap]] w (Made (Elem fun stop => ⟨#[84, 121, 112, 101, 87, 105, 116, 104, 81, 117, 97, 108, 105, 102, 105, 101, 114, 115]⟩ :: (if (⟨#[84, 121, 112, 101, 87, 105, 116, 104, 81, 117, 97, 108, 105, 102, 105, 101, 114, 115]⟩ : ByteArray) = stop then [] else ks stop)) w) := by
  have HKA := Lib.hid (fun w' (hb : Below (w.alloc (.cells #[.string ⟨#[84, 121, 112, 101, 87, 105, 116, 104, 81, 117, 97, 108, 105, 102, 105, 101, 114, 115]⟩, .string text, .int .i64 num, .slice a n cap] 24)).heap.size (w.alloc (.cells #[.string ⟨#[84, 121, 112, 101, 87, 105, 116, 104, 81, 117, 97, 108, 105, 102, 105, 101, 114, 115]⟩, .string text, .int .i64 num, .slice a n cap] 24)) w') => kid_of (Elem ks) [k, l] 0 (by simp) hT _ _ _ _ _ _ w' ((box_at h).nv.keep hb))
  have HKB := Lib.hid (fun w' (hb : Below (w.alloc (.cells #[.string ⟨#[84, 121, 112, 101, 87, 105, 116, 104, 81, 117, 97, 108, 105, 102, 105, 101, 114, 115]⟩, .string text, .int .i64 num, .slice a n cap] 24)).heap.size (w.alloc (.cells #[.string ⟨#[84, 121, 112, 101, 87, 105, 116, 104, 81, 117, 97, 108, 105, 102, 105, 101, 114, 115]⟩, .string text, .int .i64 num, .slice a n cap] 24)) w') => kid_of NilE [k, l] 1 (by simp) hT2 _ _ _ _ _ _ w' ((box_at h).nv.keep hb))
  clear hT hT2
  have HX := Lib.hid (box_at h)
  have HW := Lib.hid (below_new w (.cells #[.string ⟨#[84, 121, 112, 101, 87, 105, 116, 104, 81, 117, 97, 108, 105, 102, 105, 101, 114, 115]⟩, .string text, .int .i64 num, .slice a n cap] 24))
  clear h
  go_enter Tryz.func14, Tryz.ntmps14
  go_wp2_with fail
  generalize (w.alloc (.cells #[.string ⟨#[84, 121, 112, 101, 87, 105, 116, 104, 81, 117, 97, 108, 105, 102, 105, 101, 114, 115]⟩, .string text, .int .i64 num, .slice a n cap] 24)) = w0 at *
  have BX0 := Lib.hid HX.out.box
  have hbx := HX.out.box
  have HB0 := Lib.hid (Below.drew (Below.refl w0.heap.size w0))
  go_region_held3 (fun w' => w'.cell? ⟨w.heap.size, 0, none⟩ = some (.string ⟨#[84, 121, 112, 101, 87, 105, 116, 104, 81, 117, 97, 108, 105, 102, 105, 101, 114, 115]⟩) ∧ w'.cell? ⟨w.heap.size, 1, none⟩ = some (.string text) ∧ w'.cell? ⟨w.heap.size, 2, none⟩ = some (.int .i64 num) ∧ w'.cell? ⟨w.heap.size, 3, none⟩ = some (.slice a n cap)) (first | exact BX0.out | exact BXF.out | exact BXA.out | exact BXB.out | go_keep) (first
    | (go_at_call_of 30 (Value.int IntKind.i64 0); refine (HKA.out _ ?_).mono ?_; (first | exact HBB.out | exact HB0.out); rintro e wA ⟨vA, SA, rfl, _, hSA, hEA, hbA⟩
       obtain ⟨TA, bA, rfl⟩ := hEA.shape (fun k hk => (hSA k hk).2)
       have HEA := Lib.hid hEA
       have HSA := Lib.hid hSA
       (first
         | (have HBF := Lib.hid (behind HBB.out hbA); have BXF := Lib.hid (HX.out.keep HBF.out).box; have HPB := Lib.hid (show Below wB.heap.size wB wA from hbA))
         | (have HBA := Lib.hid (behind HB0.out hbA); have BXA := Lib.hid (HX.out.keep HBA.out).box))
       clear hEA hbA hSA)
    | (go_at_call_of 30 (Value.int IntKind.i64 1); refine (HKB.out _ ?_).mono ?_; (first | exact HBA.out | exact HB0.out); rintro e wB ⟨vB, SB, rfl, _, hSB, hEB, hbB⟩
       have hvB : vB = Value.nilIface := hEB; subst hvB
       have HEB := Lib.hid hEB
       have HSB := Lib.hid hSB
       (first
         | (have HBF := Lib.hid (behind HBA.out hbB); have BXF := Lib.hid (HX.out.keep HBF.out).box; have HPA := Lib.hid (show Below wA.heap.size wA wB from hbB))
         | (have HBB := Lib.hid (behind HB0.out hbB); have BXB := Lib.hid (HX.out.keep HBB.out).box))
       clear hEB hbB hSB))
  all_goals
    go_wp2_with fail
    go_ret
    first
    | exact mk_TypeWithQualifiers (behind HW.out HBF.out) rfl (fun k hk => by have h1 := HSA.out k hk; have h2 := HB0.out.size; have h3 := HW.out.size; have h4 := HPA.out.size; omega) ((Elem.kept _).below HEA.out (fun k hk => (HSA.out k hk).2) HPA.out) rfl
    | exact mk_TypeWithQualifiers (behind HW.out HBF.out) rfl (fun k hk => by have h1 := HSA.out k hk; have h2 := HBB.out.size; have h3 := HW.out.size; omega) HEA.out rfl

set_option maxRecDepth 100000 in
set_option maxHeartbeats 16000000 in
theorem to_TypeWithQualifiersSome (k l : NT) (ks : ByteArray → List ByteArray) (hT : TreeC (Elem ks) k) (hT2 : TreeC IfaceE l) (text : ByteArray) (num : Int) (a : Option Addr) (n cap : Nat) (w : World) (h : NV w [.string ⟨#[84, 121, 112, 101, 87, 105, 116, 104, 81, 117, 97, 108, 105, 102, 105, 101, 114, 115]⟩, .string text, .int .i64 num, .slice a n cap] (.mk ⟨#[84, 121, 112, 101, 87, 105, 116, 104, 81, 117, 97, 108, 105, 102, 105, 101, 114, 115]⟩ text num [k, l])) :
    Calls Tryz.prog 14 #[.agg #[.string ⟨#[84, 121, 112, 101, 87, 105, 116, 104, 81, 117, 97, 108, 105, 102, 105, 101, 114, 115]⟩, .string text, .int .i64 num, .slice a n cap]] w (Made (Elem fun stop => ⟨#[84, 121, 112, 101, 87, 105, 116, 104, 81, 117, 97, 108, 105, 102, 105, 101, 114, 115]⟩ :: (if (⟨#[84, 121, 112, 101, 87, 105, 116, 104, 81, 117, 97, 108, 105, 102, 105, 101, 114, 115]⟩ : ByteArray) = stop then [] else ks stop)) w) := by
  have HKA := Lib.hid (fun w' (hb : Below (w.alloc (.cells #[.string ⟨#[84, 121, 112, 101, 87, 105, 116, 104, 81, 117, 97, 108, 105, 102, 105, 101, 114, 115]⟩, .string text, .int .i64 num, .slice a n cap] 24)).heap.size (w.alloc (.cells #[.string ⟨#[84, 121, 112, 101, 87, 105, 116, 104, 81, 117, 97, 108, 105, 102, 105, 101, 114, 115]⟩, .string text, .int .i64 num, .slice a n cap] 24)) w') => kid_of (Elem ks) [k, l] 0 (by simp) hT _ _ _ _ _ _ w' ((box_at h).nv.keep hb))
  have HKB := Lib.hid (fun w' (hb : Below (w.alloc (.cells #[.string ⟨#[84, 121, 112, 101, 87, 105, 116, 104, 81, 117, 97, 108, 105, 102, 105, 101, 114, 115]⟩, .string text, .int .i64 num, .slice a n cap] 24)).heap.size (w.alloc (.cells #[.string ⟨#[84, 121, 112, 101, 87, 105, 116, 104, 81, 117, 97, 108, 105, 102, 105, 101, 114, 115]⟩, .string text, .int .i64 num, .slice a n cap] 24)) w') => kid_of IfaceE [k, l] 1 (by simp) hT2 _ _ _ _ _ _ w' ((box_at h).nv.keep hb))
  clear hT hT2
  have HX := Lib.hid (box_at h)
  have HW := Lib.hid (below_new w (.cells #[.string ⟨#[84, 121, 112, 101, 87, 105, 116, 104, 81, 117, 97, 108, 105, 102, 105, 101, 114, 115]⟩, .string text, .int .i64 num, .slice a n cap] 24))
  clear h
  go_enter Tryz.func14, Tryz.ntmps14
  go_wp2_with fail
  generalize (w.alloc (.cells #[.string ⟨#[84, 121, 112, 101, 87, 105, 116, 104, 81, 117, 97, 108, 105, 102, 105, 101, 114, 115]⟩, .string text, .int .i64 num, .slice a n cap] 24)) = w0 at *
  have BX0 := Lib.hid HX.out.box
  have hbx := HX.out.box
  have HB0 := Lib.hid (Below.drew (Below.refl w0.heap.size w0))
  go_region_held3 (fun w' => w'.cell? ⟨w.heap.size, 0, none⟩ = some (.string ⟨#[84, 121, 112, 101, 87, 105, 116, 104, 81, 117, 97, 108, 105, 102, 105, 101, 114, 115]⟩) ∧ w'.cell? ⟨w.heap.size, 1, none⟩ = some (.string text) ∧ w'.cell? ⟨w.heap.size, 2, none⟩ = some (.int .i64 num) ∧ w'.cell? ⟨w.heap.size, 3, none⟩ = some (.slice a n cap)) (first | exact BX0.out | exact BXF.out | exact BXA.out | exact BXB.out | go_keep) (first
    | (go_at_call_of 30 (Value.int IntKind.i64 0); refine (HKA.out _ ?_).mono ?_; (first | exact HBB.out | exact HB0.out); rintro e wA ⟨vA, SA, rfl, _, hSA, hEA, hbA⟩
       obtain ⟨TA, bA, rfl⟩ := hEA.shape (fun k hk => (hSA k hk).2)
       have HEA := Lib.hid hEA
       have HSA := Lib.hid hSA
       (first
         | (have HBF := Lib.hid (behind HBB.out hbA); have BXF := Lib.hid (HX.out.keep HBF.out).box; have HPB := Lib.hid (show Below wB.heap.size wB wA from hbA))
         | (have HBA := Lib.hid (behind HB0.out hbA); have BXA := Lib.hid (HX.out.keep HBA.out).box))
       clear hEA hbA hSA)
    | (go_at_call_of 30 (Value.int IntKind.i64 1); refine (HKB.out _ ?_).mono ?_; (first | exact HBA.out | exact HB0.out); rintro e wB ⟨vB, SB, rfl, _, hSB, hEB, hbB⟩
       obtain ⟨TB, pB, rfl⟩ := id hEB
       have HEB := Lib.hid hEB
       have HSB := Lib.hid hSB
       (first
         | (have HBF := Lib.hid (behind HBA.out hbB); have BXF := Lib.hid (HX.out.keep HBF.out).box; have HPA := Lib.hid (show Below wA.heap.size wA wB from hbB))
         | (have HBB := Lib.hid (behind HB0.out hbB); have BXB := Lib.hid (HX.out.keep HBB.out).box))
       clear hEB hbB hSB))
  all_goals
    go_wp2_with fail
    go_ret
    first
    | exact mk_TypeWithQualifiers (behind HW.out HBF.out) rfl (fun k hk => by have h1 := HSA.out k hk; have h2 := HB0.out.size; have h3 := HW.out.size; have h4 := HPA.out.size; omega) ((Elem.kept _).below HEA.out (fun k hk => (HSA.out k hk).2) HPA.out) rfl
    | exact mk_TypeWithQualifiers (behind HW.out HBF.out) rfl (fun k hk => by have h1 := HSA.out k hk; have h2 := HBB.out.size; have h3 := HW.out.size; omega) HEA.out rfl

set_option maxRecDepth 100000 in
set_option maxHeartbeats 16000000 in
theorem to_MethodWithQualifiersNil (k l : NT) (ks : ByteArray → List ByteArray) (hT : TreeC (Elem ks) k) (hT2 : TreeC NilE l) (text : ByteArray) (num : Int) (a : Option Addr) (n cap : Nat) (w : World) (h : NV w [.string ⟨#[77, 101, 116, 104, 111, 100, 87, 105, 116, 104, 81, 117, 97, 108, 105, 102, 105, 101, 114, 115]⟩, .string text, .int .i64 num, .slice a n cap] (.mk ⟨#[77, 101, 116, 104, 111, 100, 87, 105, 116, 104, 81, 117, 97, 108, 105, 102, 105, 101, 114, 115]⟩ text num [k, l])) :
    Calls Tryz.prog 14 #[.agg #[.string ⟨#[77, 101, 116, 104, 111, 100, 87, 105, 116, 104, 81, 117, 97, 108, 105, 102, 105, 101, 114, 115]⟩, .string text, .int .i64 num, .slice a n cap]] w (Made (Elem fun stop => ⟨#[77, 101, 116, 104, 111, 100, 87, 105, 116, 104, 81, 117, 97, 108, 105, 102, 105, 101, 114, 115]⟩ :: (if (⟨#[77, 101, 116, 104, 111, 100, 87, 105, 116, 104, 81, 117, 97, 108, 105, 102, 105, 101, 114, 115]⟩ : ByteArray) = stop then [] else ks stop)) w) := by
  have HKA := Lib.hid (fun w' (hb : Below (w.alloc (.cells #[.string ⟨#[77, 101, 116, 104, 111, 100, 87, 105, 116, 104, 81, 117, 97, 108, 105, 102, 105, 101, 114, 115]⟩, .string text, .int .i64 num, .slice a n cap] 24)).heap.size (w.alloc (.cells #[.string ⟨#[77, 101, 116, 104, 111, 100, 87, 105, 116, 104, 81, 117, 97, 108, 105, 102, 105, 101, 114, 115]⟩, .string text, .int .i64 num, .slice a n cap] 24)) w') => kid_of (Elem ks) [k, l] 0 (by simp) hT _ _ _ _ _ _ w' ((box_at h).nv.keep hb))
  have HKB := Lib.hid (fun w' (hb : Below (w.alloc (.cells #[.string ⟨#[77, 101, 116, 104, 111, 100, 87, 105, 116, 104, 81, 117, 97, 108, 105, 102, 105, 101, 114, 115]⟩, .string text, .int .i64 num, .slice a n cap] 24)).heap.size (w.alloc (.cells #[.string ⟨#[77, 101, 116, 104, 111, 100, 87, 105, 116, 104, 81, 117, 97, 108, 105, 102, 105, 101, 114, 115]⟩, .string text, .int .i64 num, .slice a n cap] 24)) w') => kid_of NilE [k, l] 1 (by simp) hT2 _ _ _ _ _ _ w' ((box_at h).nv.keep hb))
  clear hT hT2
  have HX := Lib.hid (box_at h)
  have HW := Lib.hid (below_new w (.cells #[.string ⟨#[77, 101, 116, 104, 111, 100, 87, 105, 116, 104, 81, 117, 97, 108, 105, 102, 105, 101, 114, 115]⟩, .string text, .int .i64 num, .slice a n cap] 24))
  clear h
  go_enter Tryz.func14, Tryz.ntmps14
  go_wp2_with fail
  generalize (w.alloc (.cells #[.string ⟨#[77, 101, 116, 104, 111, 100, 87, 105, 116, 104, 81, 117, 97, 108, 105, 102, 105, 101, 114, 115]⟩, .string text, .int .i64 num, .slice a n cap] 24)) = w0 at *
  have BX0 := Lib.hid HX.out.box
  have hbx := HX.out.box
  have HB0 := Lib.hid (Below.drew (Below.refl w0.heap.size w0))
  go_region_held3 (fun w' => w'.cell? ⟨w.heap.size, 0, none⟩ = some (.string ⟨#[77, 101, 116, 104, 111, 100, 87, 105, 116, 104, 81, 117, 97, 108, 105, 102, 105, 101, 114, 115]⟩) ∧ w'.cell? ⟨w.heap.size, 1, none⟩ = some (.string text) ∧ w'.cell? ⟨w.heap.size, 2, none⟩ = some (.int .i64 num) ∧ w'.cell? ⟨w.heap.size, 3, none⟩ = some (.slice a n cap)) (first | exact BX0.out | exact BXF.out | exact BXA.out | exact BXB.out | go_keep) (first
    | (go_at_call_of 30 (Value.int IntKind.i64 0); refine (HKA.out _ ?_).mono ?_; (first | exact HBB.out | exact HB0.out); rintro e wA ⟨vA, SA, rfl, _, hSA, hEA, hbA⟩
       obtain ⟨TA, bA, rfl⟩ := hEA.shape (fun k hk => (hSA k hk).2)
       have HEA := Lib.hid hEA
       have HSA := Lib.hid hSA
       (first
         | (have HBF := Lib.hid (behind HBB.out hbA); have BXF := Lib.hid (HX.out.keep HBF.out).box; have HPB := Lib.hid (show Below wB.heap.size wB wA from hbA))
         | (have HBA := Lib.hid (behind HB0.out hbA); have BXA := Lib.hid (HX.out.keep HBA.out).box))
       clear hEA hbA hSA)
    | (go_at_call_of 30 (Value.int IntKind.i64 1); refine (HKB.out _ ?_).mono ?_; (first | exact HBA.out | exact HB0.out); rintro e wB ⟨vB, SB, rfl, _, hSB, hEB, hbB⟩
       have hvB : vB = Value.nilIface := hEB; subst hvB
       have HEB := Lib.hid hEB
       have HSB := Lib.hid hSB
       (first
         | (have HBF := Lib.hid (behind HBA.out hbB); have BXF := Lib.hid (HX.out.keep HBF.out).box; have HPA := Lib.hid (show Below wA.heap.size wA wB from hbB))
         | (have HBB := Lib.hid (behind HB0.out hbB); have BXB := Lib.hid (HX.out.keep HBB.out).box))
       clear hEB hbB hSB))
  all_goals
    go_wp2_with fail
    go_ret
    first
    | exact mk_MethodWithQualifiers (behind HW.out HBF.out) rfl (fun k hk => by have h1 := HSA.out k hk; have h2 := HB0.out.size; have h3 := HW.out.size; have h4 := HPA.out.size; omega) ((Elem.kept _).below HEA.out (fun k hk => (HSA.out k hk).2) HPA.out) rfl
    | exact mk_MethodWithQualifiers (behind HW.out HBF.out) rfl (fun k hk => by have h1 := HSA.out k hk; have h2 := HBB.out.size; have h3 := HW.out.size; omega) HEA.out rfl

set_option maxRecDepth 100000 in
set_option maxHeartbeats 16000000 in
theorem to_MethodWithQualifiersSome (k l : NT) (ks : ByteArray → List ByteArray) (hT : TreeC (Elem ks) k) (hT2 : TreeC IfaceE l) (text : ByteArray) (num : Int) (a : Option Addr) (n cap : Nat) (w : World) (h : NV w [.string ⟨#[77, 101, 116, 104, 111, 100, 87, 105, 116, 104, 81, 117, 97, 108, 105, 102, 105, 101, 114, 115]⟩, .string text, .int .i64 num, .slice a n cap] (.mk ⟨#[77, 101, 116, 104, 111, 100, 87, 105, 116, 104, 81, 117, 97, 108, 105, 102, 105, 101, 114, 115]⟩ text num [k, l])) :
    Calls Tryz.prog 14 #[.agg #[.string ⟨#[77, 101, 116, 104, 111, 100, 87, 105, 116, 104, 81, 117, 97, 108, 105, 102, 105, 101, 114, 115]⟩, .string text, .int .i64 num, .slice a n cap]] w (Made (Elem fun stop => ⟨#[77, 101, 116, 104, 111, 100, 87, 105, 116, 104, 81, 117, 97, 108, 105, 102, 105, 101, 114, 115]⟩ :: (if (⟨#[77, 101, 116, 104, 111, 100, 87, 105, 116, 104, 81, 117, 97, 108, 105, 102, 105, 101, 114, 115]⟩ : ByteArray) = stop then [] else ks stop)) w) := by
  have HKA := Lib.hid (fun w' (hb : Below (w.alloc (.cells #[.string ⟨#[77, 101, 116, 104, 111, 100, 87, 105, 116, 104, 81, 117, 97, 108, 105, 102, 105, 101, 114, 115]⟩, .string text, .int .i64 num, .slice a n cap] 24)).heap.size (w.alloc (.cells #[.string ⟨#[77, 101, 116, 104, 111, 100, 87, 105, 116, 104, 81, 117, 97, 108, 105, 102, 105, 101, 114, 115]⟩, .string text, .int .i64 num, .slice a n cap] 24)) w') => kid_of (Elem ks) [k, l] 0 (by simp) hT _ _ _ _ _ _ w' ((box_at h).nv.keep hb))
  have HKB := Lib.hid (fun w' (hb : Below (w.alloc (.cells #[.string ⟨#[77, 101, 116, 104, 111, 100, 87, 105, 116, 104, 81, 117, 97, 108, 105, 102, 105, 101, 114, 115]⟩, .string text, .int .i64 num, .slice a n cap] 24)).heap.size (w.alloc (.cells #[.string ⟨#[77, 101, 116, 104, 111, 100, 87, 105, 116, 104, 81, 117, 97, 108, 105, 102, 105, 101, 114, 115]⟩, .string text, .int .i64 num, .slice a n cap] 24)) w') => kid_of IfaceE [k, l] 1 (by simp) hT2 _ _ _ _ _ _ w' ((box_at h).nv.keep hb))
  clear hT hT2
  have HX := Lib.hid (box_at h)
  have HW := Lib.hid (below_new w (.cells #[.string ⟨#[77, 101, 116, 104, 111, 100, 87, 105, 116, 104, 81, 117, 97, 108, 105, 102, 105, 101, 114, 115]⟩, .string text, .int .i64 num, .slice a n cap] 24))
  clear h
  go_enter Tryz.func14, Tryz.ntmps14
  go_wp2_with fail
  generalize (w.alloc (.cells #[.string ⟨#[77, 101, 116, 104, 111, 100, 87, 105, 116, 104, 81, 117, 97, 108, 105, 102, 105, 101, 114, 115]⟩, .string text, .int .i64 num, .slice a n cap] 24)) = w0 at *
  have BX0 := Lib.hid HX.out.box
  have hbx := HX.out.box
  have HB0 := Lib.hid (Below.drew (Below.refl w0.heap.size w0))
  go_region_held3 (fun w' => w'.cell? ⟨w.heap.size, 0, none⟩ = some (.string ⟨#[77, 101, 116, 104, 111, 100, 87, 105, 116, 104, 81, 117, 97, 108, 105, 102, 105, 101, 114, 115]⟩) ∧ w'.cell? ⟨w.heap.size, 1, none⟩ = some (.string text) ∧ w'.cell? ⟨w.heap.size, 2, none⟩ = some (.int .i64 num) ∧ w'.cell? ⟨w.heap.size, 3, none⟩ = some (.slice a n cap)) (first | exact BX0.out | exact BXF.out | exact BXA.out | exact BXB.out | go_keep) (first
    | (go_at_call_of 30 (Value.int IntKind.i64 0); refine (HKA.out _ ?_).mono ?_; (first | exact HBB.out | exact HB0.out); rintro e wA ⟨vA, SA, rfl, _, hSA, hEA, hbA⟩
       obtain ⟨TA, bA, rfl⟩ := hEA.shape (fun k hk => (hSA k hk).2)
       have HEA := Lib.hid hEA
       have HSA := Lib.hid hSA
       (first
         | (have HBF := Lib.hid (behind HBB.out hbA); have BXF := Lib.hid (HX.out.keep HBF.out).box; have HPB := Lib.hid (show Below wB.heap.size wB wA from hbA))
         | (have HBA := Lib.hid (behind HB0.out hbA); have BXA := Lib.hid (HX.out.keep HBA.out).box))
       clear hEA hbA hSA)
    | (go_at_call_of 30 (Value.int IntKind.i64 1); refine (HKB.out _ ?_).mono ?_; (first | exact HBA.out | exact HB0.out); rintro e wB ⟨vB, SB, rfl, _, hSB, hEB, hbB⟩
       obtain ⟨TB, pB, rfl⟩ := id hEB
       have HEB := Lib.hid hEB
       have HSB := Lib.hid hSB
       (first
         | (have HBF := Lib.hid (behind HBA.out hbB); have BXF := Lib.hid (HX.out.keep HBF.out).box; have HPA := Lib.hid (show Below wA.heap.size wA wB from hbB))
         | (have HBB := Lib.hid (behind HB0.out hbB); have BXB := Lib.hid (HX.out.keep HBB.out).box))
       clear hEB hbB hSB))
  all_goals
    go_wp2_with fail
    go_ret
    first
    | exact mk_MethodWithQualifiers (behind HW.out HBF.out) rfl (fun k hk => by have h1 := HSA.out k hk; have h2 := HB0.out.size; have h3 := HW.out.size; have h4 := HPA.out.size; omega) ((Elem.kept _).below HEA.out (fun k hk => (HSA.out k hk).2) HPA.out) rfl
    | exact mk_MethodWithQualifiers (behind HW.out HBF.out) rfl (fun k hk => by have h1 := HSA.out k hk; have h2 := HBB.out.size; have h3 := HW.out.size; omega) HEA.out rfl

end Go.Proofs.YtdlhhdhooacogaaGreatDoor

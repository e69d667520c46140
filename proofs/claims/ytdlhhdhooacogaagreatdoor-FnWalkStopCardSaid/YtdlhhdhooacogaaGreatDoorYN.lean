/-
  treeOf at functions.
-/
import Derived.Test.YtdlhhdhooacogaaGreatDoorYI
namespace Go.Proofs.YtdlhhdhooacogaaGreatDoor
open Go.RowKit

set_option maxRecDepth 100000 in
set_option maxHeartbeats 16000000 in
theorem to_FunctionType (k : NT) (kl : List NT) (ks : ByteArray → List ByteArray) (kk : Nat → ByteArray → List ByteArray) (hT : TreeC (Elem ks) k) (hT2 : ∀ i, 1 ≤ i → i < (k :: kl).length → TreeC (Elem (kk i)) ((k :: kl).getD i default)) (hn1000 : ∀ n, n = (k :: kl).length → n ≤ 1000) (text : ByteArray) (num : Int) (a : Option Addr) (n cap : Nat) (w : World) (h : NV w [.string ⟨#[70, 117, 110, 99, 116, 105, 111, 110, 84, 121, 112, 101]⟩, .string text, .int .i64 num, .slice a n cap] (.mk ⟨#[70, 117, 110, 99, 116, 105, 111, 110, 84, 121, 112, 101]⟩ text num (k :: kl))) :
    Calls Tryz.prog 14 #[.agg #[.string ⟨#[70, 117, 110, 99, 116, 105, 111, 110, 84, 121, 112, 101]⟩, .string text, .int .i64 num, .slice a n cap]] w (Made (Elem fun stop => ⟨#[70, 117, 110, 99, 116, 105, 111, 110, 84, 121, 112, 101]⟩ :: (if (⟨#[70, 117, 110, 99, 116, 105, 111, 110, 84, 121, 112, 101]⟩ : ByteArray) = stop then [] else ks stop ++ ((List.range (n - 1)).map fun i => kk (1 + i) stop).flatten)) w) := by
  have hn1000 : n ≤ 1000 := by obtain ⟨_, e, _, _, hn, _⟩ := h.kids; simp at e; subst e; exact hn1000 n hn
  have HKA := Lib.hid (fun w' (hb : Below (w.alloc (.cells #[.string ⟨#[70, 117, 110, 99, 116, 105, 111, 110, 84, 121, 112, 101]⟩, .string text, .int .i64 num, .slice a n cap] 24)).heap.size (w.alloc (.cells #[.string ⟨#[70, 117, 110, 99, 116, 105, 111, 110, 84, 121, 112, 101]⟩, .string text, .int .i64 num, .slice a n cap] 24)) w') => kid_of (Elem ks) (k :: kl) 0 (by simp) hT _ _ _ _ _ _ w' ((box_at h).nv.keep hb))
  have HKB := Lib.hid (fun w' (hb : Below (w.alloc (.cells #[.string ⟨#[70, 117, 110, 99, 116, 105, 111, 110, 84, 121, 112, 101]⟩, .string text, .int .i64 num, .slice a n cap] 24)).heap.size (w.alloc (.cells #[.string ⟨#[70, 117, 110, 99, 116, 105, 111, 110, 84, 121, 112, 101]⟩, .string text, .int .i64 num, .slice a n cap] 24)) w') => kids_of (fun i => Elem (kk i)) (fun i => Elem.kept _) 1 (k :: kl) hT2 _ _ _ _ _ _ w' (by have := h.kids; obtain ⟨_, e, _, _, hn, _⟩ := this; simp at e; subst e; (try simp at hn); omega) hn1000 ((box_at h).nv.keep hb))
  clear hT hT2
  have HX := Lib.hid (box_at h)
  have HW := Lib.hid (below_new w (.cells #[.string ⟨#[70, 117, 110, 99, 116, 105, 111, 110, 84, 121, 112, 101]⟩, .string text, .int .i64 num, .slice a n cap] 24))
  clear h
  go_enter Tryz.func14, Tryz.ntmps14
  go_wp2_with fail
  generalize (w.alloc (.cells #[.string ⟨#[70, 117, 110, 99, 116, 105, 111, 110, 84, 121, 112, 101]⟩, .string text, .int .i64 num, .slice a n cap] 24)) = w0 at *
  have BX0 := Lib.hid HX.out.box
  have hbx := HX.out.box
  have HB0 := Lib.hid (Below.drew (Below.refl w0.heap.size w0))
  go_region_held3 (fun w' => w'.cell? ⟨w.heap.size, 0, none⟩ = some (.string ⟨#[70, 117, 110, 99, 116, 105, 111, 110, 84, 121, 112, 101]⟩) ∧ w'.cell? ⟨w.heap.size, 1, none⟩ = some (.string text) ∧ w'.cell? ⟨w.heap.size, 2, none⟩ = some (.int .i64 num) ∧ w'.cell? ⟨w.heap.size, 3, none⟩ = some (.slice a n cap)) (first | exact BX0.out | exact BXF.out | exact BXA.out | exact BXB.out | go_keep) (first
    | (go_at_call_of 30 (Value.int IntKind.i64 0); refine (HKA.out _ ?_).mono ?_; (first | exact HBB.out | exact HB0.out); rintro e wA ⟨vA, SA, rfl, _, hSA, hEA, hbA⟩
       obtain ⟨TA, bA, rfl⟩ := hEA.shape (fun k hk => (hSA k hk).2)
       have HEA := Lib.hid hEA
       have HSA := Lib.hid hSA
       (first
         | (have HBF := Lib.hid (behind HBB.out hbA); have BXF := Lib.hid (HX.out.keep HBF.out).box; have HPB := Lib.hid (show Below wB.heap.size wB wA from hbA))
         | (have HBA := Lib.hid (behind HB0.out hbA); have BXA := Lib.hid (HX.out.keep HBA.out).box))
       clear hEA hbA hSA)
    | (go_at_call_of 31 (Value.int IntKind.i64 1); refine (HKB.out _ ?_).mono ?_; (first | exact HBA.out | exact HB0.out); rintro e wB ⟨vB, rfl, hEB, hbB⟩
       obtain ⟨aB, capB, rfl⟩ := hEB.slice
       have HEB := Lib.hid hEB
       (first
         | (have HBF := Lib.hid (behind HBA.out hbB); have BXF := Lib.hid (HX.out.keep HBF.out).box; have HPA := Lib.hid (show Below wA.heap.size wA wB from hbB))
         | (have HBB := Lib.hid (behind HB0.out hbB); have BXB := Lib.hid (HX.out.keep HBB.out).box))
       clear hEB hbB))
  all_goals
    go_wp2_with fail
    go_ret
    first
    | (obtain ⟨SR, hSR, hrow⟩ := HEB.out.row (by omega); exact mk_FunctionType (behind HW.out HBF.out) rfl (S := SR) (fun k hk => by have h1 := hSR k hk; have h2 := HBA.out.size; have h3 := HW.out.size; omega) hrow rfl (fun k hk => by have h1 := HSA.out k hk; have h2 := HB0.out.size; have h3 := HW.out.size; have h4 := HPA.out.size; omega) ((Elem.kept _).below HEA.out (fun k hk => (HSA.out k hk).2) HPA.out) rfl)
    | (obtain ⟨SR, hSR, hrow⟩ := HEB.out.row (by omega); exact mk_FunctionType (behind HW.out HBF.out) rfl (S := SR) (fun k hk => by have h1 := hSR k hk; have h2 := HB0.out.size; have h3 := HW.out.size; have h4 := HPB.out.size; omega) (fun o s stop w0 h1 h2 h3 => hrow o s stop w0 h1 (by have := HPB.out.size; omega) (fun k hk => (h3 k hk).trans (HPB.out.block k (hSR k hk).2))) rfl (fun k hk => by have h1 := HSA.out k hk; have h2 := HBB.out.size; have h3 := HW.out.size; omega) HEA.out rfl)

set_option maxRecDepth 100000 in
set_option maxHeartbeats 16000000 in
theorem to_FunctionTypeNil (k : NT) (kl : List NT) (kk : Nat → ByteArray → List ByteArray) (hT : TreeC NilE k) (hT2 : ∀ i, 1 ≤ i → i < (k :: kl).length → TreeC (Elem (kk i)) ((k :: kl).getD i default)) (hn1000 : ∀ n, n = (k :: kl).length → n ≤ 1000) (text : ByteArray) (num : Int) (a : Option Addr) (n cap : Nat) (w : World) (h : NV w [.string ⟨#[70, 117, 110, 99, 116, 105, 111, 110, 84, 121, 112, 101]⟩, .string text, .int .i64 num, .slice a n cap] (.mk ⟨#[70, 117, 110, 99, 116, 105, 111, 110, 84, 121, 112, 101]⟩ text num (k :: kl))) :
    Calls Tryz.prog 14 #[.agg #[.string ⟨#[70, 117, 110, 99, 116, 105, 111, 110, 84, 121, 112, 101]⟩, .string text, .int .i64 num, .slice a n cap]] w (Made (Elem fun stop => ⟨#[70, 117, 110, 99, 116, 105, 111, 110, 84, 121, 112, 101]⟩ :: (if (⟨#[70, 117, 110, 99, 116, 105, 111, 110, 84, 121, 112, 101]⟩ : ByteArray) = stop then [] else ((List.range (n - 1)).map fun i => kk (1 + i) stop).flatten)) w) := by
  have hn1000 : n ≤ 1000 := by obtain ⟨_, e, _, _, hn, _⟩ := h.kids; simp at e; subst e; exact hn1000 n hn
  have HKA := Lib.hid (fun w' (hb : Below (w.alloc (.cells #[.string ⟨#[70, 117, 110, 99, 116, 105, 111, 110, 84, 121, 112, 101]⟩, .string text, .int .i64 num, .slice a n cap] 24)).heap.size (w.alloc (.cells #[.string ⟨#[70, 117, 110, 99, 116, 105, 111, 110, 84, 121, 112, 101]⟩, .string text, .int .i64 num, .slice a n cap] 24)) w') => kid_of NilE (k :: kl) 0 (by simp) hT _ _ _ _ _ _ w' ((box_at h).nv.keep hb))
  have HKB := Lib.hid (fun w' (hb : Below (w.alloc (.cells #[.string ⟨#[70, 117, 110, 99, 116, 105, 111, 110, 84, 121, 112, 101]⟩, .string text, .int .i64 num, .slice a n cap] 24)).heap.size (w.alloc (.cells #[.string ⟨#[70, 117, 110, 99, 116, 105, 111, 110, 84, 121, 112, 101]⟩, .string text, .int .i64 num, .slice a n cap] 24)) w') => kids_of (fun i => Elem (kk i)) (fun i => Elem.kept _) 1 (k :: kl) hT2 _ _ _ _ _ _ w' (by have := h.kids; obtain ⟨_, e, _, _, hn, _⟩ := this; simp at e; subst e; (try simp at hn); omega) hn1000 ((box_at h).nv.keep hb))
  clear hT hT2
  have HX := Lib.hid (box_at h)
  have HW := Lib.hid (below_new w (.cells #[.string ⟨#[70, 117, 110, 99, 116, 105, 111, 110, 84, 121, 112, 101]⟩, .string text, .int .i64 num, .slice a n cap] 24))
  clear h
  go_enter Tryz.func14, Tryz.ntmps14
  go_wp2_with fail
  generalize (w.alloc (.cells #[.string ⟨#[70, 117, 110, 99, 116, 105, 111, 110, 84, 121, 112, 101]⟩, .string text, .int .i64 num, .slice a n cap] 24)) = w0 at *
  have BX0 := Lib.hid HX.out.box
  have hbx := HX.out.box
  have HB0 := Lib.hid (Below.drew (Below.refl w0.heap.size w0))
  go_region_held3 (fun w' => w'.cell? ⟨w.heap.size, 0, none⟩ = some (.string ⟨#[70, 117, 110, 99, 116, 105, 111, 110, 84, 121, 112, 101]⟩) ∧ w'.cell? ⟨w.heap.size, 1, none⟩ = some (.string text) ∧ w'.cell? ⟨w.heap.size, 2, none⟩ = some (.int .i64 num) ∧ w'.cell? ⟨w.heap.size, 3, none⟩ = some (.slice a n cap)) (first | exact BX0.out | exact BXF.out | exact BXA.out | exact BXB.out | go_keep) (first
    | (go_at_call_of 30 (Value.int IntKind.i64 0); refine (HKA.out _ ?_).mono ?_; (first | exact HBB.out | exact HB0.out); rintro e wA ⟨vA, SA, rfl, _, hSA, hEA, hbA⟩
       have hvA : vA = Value.nilIface := hEA; subst hvA
       have HEA := Lib.hid hEA
       have HSA := Lib.hid hSA
       (first
         | (have HBF := Lib.hid (behind HBB.out hbA); have BXF := Lib.hid (HX.out.keep HBF.out).box; have HPB := Lib.hid (show Below wB.heap.size wB wA from hbA))
         | (have HBA := Lib.hid (behind HB0.out hbA); have BXA := Lib.hid (HX.out.keep HBA.out).box))
       clear hEA hbA hSA)
    | (go_at_call_of 31 (Value.int IntKind.i64 1); refine (HKB.out _ ?_).mono ?_; (first | exact HBA.out | exact HB0.out); rintro e wB ⟨vB, rfl, hEB, hbB⟩
       obtain ⟨aB, capB, rfl⟩ := hEB.slice
       have HEB := Lib.hid hEB
       (first
         | (have HBF := Lib.hid (behind HBA.out hbB); have BXF := Lib.hid (HX.out.keep HBF.out).box; have HPA := Lib.hid (show Below wA.heap.size wA wB from hbB))
         | (have HBB := Lib.hid (behind HB0.out hbB); have BXB := Lib.hid (HX.out.keep HBB.out).box))
       clear hEB hbB))
  all_goals
    go_wp2_with fail
    go_ret
    first
    | (obtain ⟨SR, hSR, hrow⟩ := HEB.out.row (by omega); exact mk_FunctionTypeNil (behind HW.out HBF.out) rfl (S := SR) (fun k hk => by have h1 := hSR k hk; have h2 := HBA.out.size; have h3 := HW.out.size; omega) hrow rfl rfl)
    | (obtain ⟨SR, hSR, hrow⟩ := HEB.out.row (by omega); exact mk_FunctionTypeNil (behind HW.out HBF.out) rfl (S := SR) (fun k hk => by have h1 := hSR k hk; have h2 := HB0.out.size; have h3 := HW.out.size; have h4 := HPB.out.size; omega) (fun o s stop w0 h1 h2 h3 => hrow o s stop w0 h1 (by have := HPB.out.size; omega) (fun k hk => (h3 k hk).trans (HPB.out.block k (hSR k hk).2))) rfl rfl)

end Go.Proofs.YtdlhhdhooacogaaGreatDoor

/-
  The Builder's text; Names and builtin types printed; ASTToString without options.
-/
import Derived.Test.YtjemnnfnocmjlaaGreatQK
namespace Go.Proofs.YtjemnnfnocmjlaaGreat
open Go.RowKit

theorem Tryz.cellsByte : Tryz.prog.cellsOf 5 = 1 := by kernel_rfl

set_option maxHeartbeats 1000000 in
theorem string_any (A : Nat) (w : World) (σ : PS) (pr : List Value) (h : PSt A w σ pr) :
    Calls Tryz.prog 19 #[.pointer (some ⟨A, 5, none⟩)] w fun e w' => e = .returned (.string ⟨σ.out.toArray⟩) ∧ Below A w w' := by
  obtain ⟨ad, bv, pv, hA, _, hown, hnil, _⟩ := h
  have c6 : w.drew.cell? ⟨A, 6, none⟩ = some bv := by
    show w.cell? ⟨A, 6, none⟩ = some bv
    simp [World.cell?, hA]
  by_cases h0 : σ.out = []
  · have e := hnil h0
    subst e
    have hSD : (Builtin.unsafeSliceData_ #[55] 70 #[.slice none 0 0]).run Tryz.prog w.drew = .ok (.pointer none) w.drew := rfl
    have hUS := Lib.run_unsafeString_none (P := Tryz.prog) w.drew 70 3 9 none
    have e2 : (ByteArray.mk σ.out.toArray) = .empty := by rw [h0]; rfl
    rw [e2]
    clear e2 h0 hnil hown hA
    go_enter Tryz.func19, Tryz.ntmps19
    go_wp2_with fail
    go_region
    all_goals (go_wp2_with fail; go_ret; exact ⟨rfl, Below.drew (Below.refl A w)⟩)
  · have hl0 : σ.out.length ≠ 0 := by simpa using h0
    obtain ⟨g, cap, cur, rfl, hbg, hg, hnc, hcm, hcs, htake⟩ : ∃ g cap cur, bv = .slice (some ⟨g, 0, none⟩) σ.out.length cap ∧ A + 1 ≤ g ∧ w.heap[g]? = some (.cells cur 5 (0, 0)) ∧ σ.out.length ≤ cap ∧ cap ≤ maxLen ∧ cur.size = cap * 1 ∧ cur.toList.take (σ.out.length * 1) = Lib.byteCells σ.out := by
      rcases hown.2 with ⟨_, hz⟩ | ⟨g, cap, cur, hv, r⟩
      · exact absurd hz hl0
      · exact ⟨g, cap, cur, hv, r⟩
    have hSD : (Builtin.unsafeSliceData_ #[55] 70 #[.slice (some ⟨g, 0, none⟩) σ.out.length cap]).run Tryz.prog w.drew = .ok (.pointer (some ⟨g, 0, none⟩)) w.drew :=
      Lib.run_unsafeSliceData_row _ _ _ _ _ _ (by omega)
    have hUS : (Builtin.unsafeString_ #[70, 3] 9 #[.pointer (some ⟨g, 0, none⟩), .int .i64 σ.out.length]).run Tryz.prog w.drew = .ok (.string ⟨σ.out.toArray⟩) (w.drew.freeze ⟨g, 0, none⟩ σ.out.length) := by
      refine Lib.run_unsafeString_row w.drew 70 3 9 5 Tryz.underlying70 Tryz.cellsByte g cur.size (by have hg' : w.drew.heap[g]? = some (.cells cur 5 (0, 0)) := hg; simp [World.shape?, hg']) σ.out h0 (by omega) (by unfold maxLen at hcm; omega) ?_
      intro j x hx
      have := hown.cells (g := g) rfl j (.int .u8 x.toNat) (by simp [Lib.byteCells, hx])
      exact this
    clear hA hown hnil h0 hl0 hg htake hcs
    go_enter Tryz.func19, Tryz.ntmps19
    go_wp2_with fail
    go_region
    all_goals (go_wp2_with fail; go_ret; exact ⟨rfl, Lib.below_freeze (Below.drew (Below.refl A w)) (p := ⟨g, 0, none⟩) (by show A ≤ g; omega) _⟩)

set_option maxHeartbeats 1000000 in
theorem mName_any (A b : Nat) (s : ByteArray) (w : World) (σ : PS) (pr : List Value) (h : PSt A w σ pr) (hc : w.cell? ⟨b, 0, none⟩ = some (.string s)) (hl : σ.out.length + s.size ≤ 140737488355328) :
    Calls Tryz.prog 68 #[.pointer (some ⟨b, 0, none⟩), .pointer (some ⟨A, 0, none⟩)] w fun e w' => e = .returned (.tuple #[]) ∧ PSt A w' (σ.text s.data.toList) pr ∧ Below A w w' := by
  go_enter Tryz.func68, Tryz.ntmps68
  go_wp2_with fail
  refine (writeString_any A w σ pr s h hl).mono ?_
  rintro e w1 ⟨rfl, hp, hb⟩
  go_wp2_with fail
  go_end0
  exact ⟨rfl, hp, hb⟩

set_option maxHeartbeats 1000000 in
theorem mBuiltin_any (A b : Nat) (s : ByteArray) (w : World) (σ : PS) (pr : List Value) (h : PSt A w σ pr) (hv : σ.llvm = false) (hc : w.cell? ⟨b, 0, none⟩ = some (.string s)) (hl : σ.out.length + s.size ≤ 140737488355328) :
    Calls Tryz.prog 71 #[.pointer (some ⟨b, 0, none⟩), .pointer (some ⟨A, 0, none⟩)] w fun e w' => e = .returned (.tuple #[]) ∧ PSt A w' (σ.text s.data.toList) pr ∧ Below A w w' := by
  have c2 := h.cLlvm
  rw [hv] at c2
  go_enter Tryz.func71, Tryz.ntmps71
  go_wp2_with fail
  refine (writeString_any A w σ pr s h hl).mono ?_
  rintro e w1 ⟨rfl, hp, hb⟩
  go_wp2_with fail
  go_end0
  exact ⟨rfl, hp, hb⟩

end Go.Proofs.YtjemnnfnocmjlaaGreat

/-
  spec.size: its plain twin, its contract.
-/
import Derived.Test.YtdlhhdhooacogaaGreatDoorWB
namespace Go.Proofs.YtdlhhdhooacogaaGreatDoor
open Go.RowKit

def sizeKs (f : NT → Int → Int) : List NT → Int → Int → Int
  | [], all, _ => all
  | k :: ks, all, bound => if all + f k (bound - all) > bound then 201 else sizeKs f ks (all + f k (bound - all)) bound

def sizeT : Nat → NT → Int → Int
  | 0, _, _ => 201
  | d + 1, .mk _ _ _ kids, bound => if bound ≤ 0 then 201 else sizeKs (sizeT d) kids 1 bound

/-- The value of a node whose four cells these are. -/
def aggOf (cs : List Value) : Value := .agg cs.toArray

theorem NV.four {w : World} {cs : List Value} {t : NT} (h : NV w cs t) : ∃ kind text num a n cap, cs = [.string kind, .string text, .int .i64 num, .slice a n cap] := by
  cases h with
  | mk => exact ⟨_, _, _, _, _, _, rfl⟩

/-- It hands back the number n; what was there stands. -/
def SaysN (n : Int) (w : World) (e : Ending) (w' : World) : Prop := e = .returned (.int .i64 n) ∧ Below w.heap.size w w'

theorem sizeKs_le (f : NT → Int → Int) (hf : ∀ t b, 1 ≤ f t b ∧ f t b ≤ 201) (ks : List NT) : ∀ (all bound : Int), 1 ≤ all → all ≤ bound → bound ≤ 200 → 1 ≤ sizeKs f ks all bound ∧ sizeKs f ks all bound ≤ 201 := by
  induction ks with
  | nil => intro all bound h1 h2 h3; exact ⟨h1, by show all ≤ 201; omega⟩
  | cons k ks ih =>
    intro all bound h1 h2 h3
    have := hf k (bound - all)
    unfold sizeKs
    split
    · omega
    · exact ih _ _ (by omega) (by omega) h3

theorem sizeT_in (d : Nat) : ∀ (t : NT) (b : Int), b ≤ 200 → 1 ≤ sizeT d t b ∧ sizeT d t b ≤ 201 := by
  induction d with
  | zero => intro t b _; exact ⟨by show (1 : Int) ≤ 201; decide, by show (201 : Int) ≤ 201; decide⟩
  | succ d ih =>
    intro t b hb
    cases t with
    | mk kind text num kids =>
      unfold sizeT
      split
      · omega
      · have hk : ∀ (ks : List NT) (all : Int), 1 ≤ all → all ≤ b → 1 ≤ sizeKs (sizeT d) ks all b ∧ sizeKs (sizeT d) ks all b ≤ 201 := by
          intro ks
          induction ks with
          | nil => intro all h1 h2; exact ⟨h1, by show all ≤ 201; omega⟩
          | cons k ks ih2 =>
            intro all h1 h2
            have := ih k (b - all) (by omega)
            unfold sizeKs
            split
            · omega
            · exact ih2 _ (by omega) (by omega)
        exact hk kids 1 (by decide) (by omega)

set_option maxRecDepth 100000 in
set_option maxHeartbeats 2000000 in
theorem size_any (d : Nat) : ∀ (cs : List Value) (t : NT) (b : Int) (w : World), NV w cs t → d ≤ 24 → 0 ≤ b → b ≤ 200 →
    Calls Tryz.prog 10 #[aggOf cs, .int .i64 d, .int .i64 b] w (SaysN (sizeT d t b) w) := by
  induction d with
  | zero =>
    intro cs t b w h hd h0 h1
    cases h with
    | mk kind text num a n cap kids css z1 z2 z3 hl hm hcap ha hk =>
      clear ha hk
      show Calls Tryz.prog 10 #[.agg #[.string kind, .string text, .int .i64 num, .slice a n cap], .int .i64 0, .int .i64 b] w _
      go_enter Tryz.func10, Tryz.ntmps10
      go_wp2_with fail
      go_ret
      exact ⟨rfl, (Below.refl _ _).alloc (Nat.le_refl _) _⟩
  | succ d ih =>
    intro cs t b w h hd h0 h1
    cases h with
    | mk kind text num a n cap kids css z1 z2 z3 hl hm hcap ha hk =>
      have HA := Lib.hid ha
      have HK := Lib.hid hk
      have IH := Lib.hid ih
      clear ha hk ih
      show Calls Tryz.prog 10 #[.agg #[.string kind, .string text, .int .i64 num, .slice a n cap], .int .i64 ((d + 1 : Nat) : Int), .int .i64 b] w _
      by_cases hb : b ≤ 0
      · go_enter Tryz.func10, Tryz.ntmps10
        go_wp2_with fail
        go_ret
        exact ⟨by rw [sizeT, if_pos hb]; rfl, (Below.refl _ _).alloc (Nat.le_refl _) _⟩
      · have HE := Lib.hid (show sizeKs (sizeT d) kids 1 b = sizeT (d + 1) (.mk kind text num kids) b by rw [sizeT, if_neg hb])
        generalize sizeT (d + 1) (.mk kind text num kids) b = R at *
        have hm2 : n ≤ 9223372036854775807 := by unfold maxLen at hm; omega
        go_enter Tryz.func10, Tryz.ntmps10
        go_wp2_with fail
        go_loopw [7, 19] (fun v i wr => ∃ (k : Nat) (all : Int), k ≤ n ∧ i = .int .i64 k ∧ v = .int .i64 all ∧ 1 ≤ all ∧ all ≤ b ∧ sizeKs (sizeT d) (kids.drop k) all b = R ∧ Below w.heap.size w wr) (fun _ i _ => n - (intOf i).toNat)
        case atStart => exact ⟨0, 1, Nat.zero_le _, rfl, rfl, by decide, by omega, HE.out, (Below.refl _ _).alloc (Nat.le_refl _) _⟩
        case round =>
          obtain ⟨k, all, hk, rfl, rfl, ha1, ha2, hR, hbw⟩ := hrel
          by_cases hlt : k < n
          · obtain ⟨b0, off, rfl, hb0, hcs⟩ := HA.out (by omega)
            have hnv := HK.out k hlt
            obtain ⟨kind1, text1, num1, a1, n1, cap1, ecs⟩ := hnv.four
            have g := fun j hj => hcs k hlt j hj
            have g0 : wr.cell? ⟨b0, off + k * 4, none⟩ = some (.string kind1) := by rw [hbw.cell (p := ⟨b0, off + k * 4, none⟩) hb0]; have := g 0 (by decide); rw [ecs] at this; exact this
            have g1 : wr.cell? ⟨b0, off + k * 4 + 1, none⟩ = some (.string text1) := by rw [hbw.cell (p := ⟨b0, off + k * 4 + 1, none⟩) hb0]; have := g 1 (by decide); rw [ecs] at this; exact this
            have g2 : wr.cell? ⟨b0, off + k * 4 + 2, none⟩ = some (.int .i64 num1) := by rw [hbw.cell (p := ⟨b0, off + k * 4 + 2, none⟩) hb0]; have := g 2 (by decide); rw [ecs] at this; exact this
            have g3 : wr.cell? ⟨b0, off + k * 4 + 3, none⟩ = some (.slice a1 n1 cap1) := by rw [hbw.cell (p := ⟨b0, off + k * 4 + 3, none⟩) hb0]; have := g 3 (by decide); rw [ecs] at this; exact this
            have hdr : kids.drop k = kids.getD k default :: kids.drop (k + 1) := by
              rw [List.drop_eq_getElem_cons (by omega)]
              simp [List.getD, show k < kids.length by omega]
            rw [hdr, sizeKs] at hR
            obtain ⟨r1, r2⟩ := sizeT_in d (kids.getD k default) (b - all) (by omega)
            have hbn : Below w.heap.size w (wr.alloc (.cells #[.string kind1, .string text1, .int .i64 num1, .slice a1 n1 cap1] 24)) := hbw.alloc hbw.size _
            have hcall := IH.out (css k) (kids.getD k default) (b - all) _ (hnv.keep hbn) (by omega) (by omega) (by omega)
            rw [ecs] at hcall
            change Calls Tryz.prog 10 #[.agg #[.string kind1, .string text1, .int .i64 num1, .slice a1 n1 cap1], .int .i64 d, .int .i64 (b - all)] _ _ at hcall
            generalize sizeT d (kids.getD k default) (b - all) = r at *
            have HC := Lib.hid hcall
            have HB := Lib.hid hbn
            have HR := Lib.hid hR
            clear g hcs hcall hbn hbw hR hnv hdr
            go_wp2_with fail
            refine HC.out.mono ?_
            rintro e w2 ⟨rfl, hb2⟩
            have hb3 := HB.out.trans (hb2.mono HB.out.size)
            clear hb2
            by_cases hgt : all + r > b
            · have hR := HR.out
              rw [if_pos hgt] at hR
              go_wp2_with fail
              go_ret
              exact ⟨by rw [← hR]; rfl, hb3⟩
            · have hR := HR.out
              rw [if_neg hgt] at hR
              have HR2 := Lib.hid hR
              clear hR
              go_wp2_with fail
              go_roundw
              case rel => exact ⟨k + 1, all + r, by omega, by go_num, by go_num, by omega, by omega, HR2.out, hb3⟩
              case measure => simp [intOf]; omega
          · have e : kids.drop k = [] := List.drop_of_length_le (by omega)
            rw [e, sizeKs] at hR
            subst hR
            go_wp2_with fail
            go_ret
            exact ⟨rfl, hbw⟩

end Go.Proofs.YtdlhhdhooacogaaGreatDoor

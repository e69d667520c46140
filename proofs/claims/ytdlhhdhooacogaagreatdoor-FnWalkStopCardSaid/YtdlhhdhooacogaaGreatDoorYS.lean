/-
  cxxAlike at two lists of the same texts: true.
-/
import Derived.Test.YtdlhhdhooacogaaGreatDoorWG
import Derived.Test.YtdlhhdhooacogaaGreatDoorYC
namespace Go.Proofs.YtdlhhdhooacogaaGreatDoor
open Go.RowKit

/-- The slice v reads as the texts xs. -/
def Reads (w : World) (v : Value) (xs : List ByteArray) (n : Nat) : Prop := n = xs.length ∧ ∃ a c, v = .slice a n c ∧ (0 < n → ∃ g, a = some ⟨g, 0, none⟩ ∧ ∀ i, i < n → w.cell? ⟨g, i, none⟩ = some (.string (xs.getD i ⟨#[]⟩)))

/-- How often s stands among the first k. -/
def occ (xs : List ByteArray) (s : ByteArray) : Nat → Nat
  | 0 => 0
  | k + 1 => occ xs s k + if ((xs.getD k ⟨#[]⟩).toList == s.toList) = true then 1 else 0

theorem occ_le (xs : List ByteArray) (s : ByteArray) (k : Nat) : occ xs s k ≤ k := by
  induction k with
  | zero => exact Nat.le_refl _
  | succ k ih => simp only [occ]; split <;> omega

theorem occ_mono (xs : List ByteArray) (s : ByteArray) (k n : Nat) (h : k ≤ n) : occ xs s k ≤ occ xs s n := by
  induction n with
  | zero => have : k = 0 := by omega
            subst this; exact Nat.le_refl _
  | succ n ih =>
    by_cases hk : k = n + 1
    · subst hk; exact Nat.le_refl _
    · have := ih (by omega)
      simp only [occ]; omega

set_option maxRecDepth 100000 in
set_option maxHeartbeats 8000000 in
theorem alike_any (xs : List ByteArray) (n : Nat) (v v2 : Value) (w : World) (hn : n ≤ 1000) (h1 : Reads w v xs n) (h2 : Reads w v2 xs n) : Calls Tryz.prog 7 #[v, v2] w (fun e w' => e = .returned (.bool true) ∧ w' = w) := by
  obtain ⟨hl, a, c, rfl, hc⟩ := h1
  obtain ⟨hl2, a2, c2, rfl, hc2⟩ := h2
  have HC := Lib.hid hc
  have HC2 := Lib.hid hc2
  clear hl hl2 hc hc2
  go_enter Tryz.func7, Tryz.ntmps7
  go_wp2_with fail
  go_loop [19] (fun i => ∃ k : Nat, k ≤ n ∧ i = .int .i64 k) (fun i => n - (intOf i).toNat)
  case atStart => exact ⟨0, Nat.zero_le _, rfl⟩
  case round =>
    obtain ⟨k, hk, rfl⟩ := hrel
    by_cases hlt : k < n
    · have hlt2 : (k : Int) < (n : Int) := by omega
      obtain ⟨g, rfl, hg⟩ := HC.out (by omega)
      obtain ⟨g2, rfl, hg2⟩ := HC2.out (by omega)
      have c0 := hg k hlt
      have HG := Lib.hid hg
      have HG2 := Lib.hid hg2
      clear hg hg2
      generalize xs.getD k ⟨#[]⟩ = s at *
      go_wp2_with fail
      clear c0
      go_loop [25, 7] (fun i q => ∃ j : Nat, j ≤ n ∧ i = .int .i64 j ∧ q = .int .i64 (occ xs s j)) (fun i _ => n - (intOf i).toNat)
      case atStart => exact ⟨0, Nat.zero_le _, rfl, rfl⟩
      case round =>
        obtain ⟨j, hj, rfl, rfl⟩ := hrel
        have hoc := occ_le xs s j
        by_cases hjt : j < n
        · have hjt2 : (j : Int) < (n : Int) := by omega
          have c1 := HG.out j hjt
          have hstep := occ.eq_2 xs s j
          have HST := Lib.hid hstep
          clear hstep
          generalize xs.getD j ⟨#[]⟩ = t at *
          rcases bt (t.toList == s.toList) with q | q
          · go_wp2_with fail
            go_round
            case rel => exact ⟨j + 1, by omega, by go_num, by have := HST.out; rw [if_pos q] at this; rw [this]; go_num⟩
            case measure => simp [intOf]; omega
          · go_wp2_with fail
            go_round
            case rel => exact ⟨j + 1, by omega, by go_num, by have := HST.out; rw [if_neg (by rw [q]; simp)] at this; rw [this]; go_num⟩
            case measure => simp [intOf]; omega
        · have ej : n = j := by omega
          subst ej
          clear hjt
          go_wp2_with fail
          go_loop [37, 7] (fun i q => ∃ j : Nat, j ≤ n ∧ i = .int .i64 j ∧ q = .int .i64 ((occ xs s n : Int) - (occ xs s j : Int))) (fun i _ => n - (intOf i).toNat)
          case atStart => exact ⟨0, Nat.zero_le _, rfl, by simp [occ]⟩
          case round =>
            obtain ⟨j, hj, rfl, rfl⟩ := hrel
            by_cases hjt : j < n
            · have hjt2 : (j : Int) < (n : Int) := by omega
              have hm1 := occ_mono xs s j n hj
              have hm2 := occ_mono xs s (j + 1) n (by omega)
              have hm3 := occ_le xs s n
              have c1 := HG2.out j hjt
              have HST := Lib.hid (occ.eq_2 xs s j)
              have HM2 := Lib.hid hm2
              clear hm2
              generalize xs.getD j ⟨#[]⟩ = t at *
              generalize occ xs s n = total at *
              rcases bt (t.toList == s.toList) with q | q
              · go_wp2_with fail
                go_round
                case rel => exact ⟨j + 1, by omega, by go_num, by have := HST.out; rw [if_pos q] at this; rw [this]; have := HM2.out; go_num⟩
                case measure => simp [intOf]; omega
              · go_wp2_with fail
                go_round
                case rel => exact ⟨j + 1, by omega, by go_num, by have := HST.out; rw [if_neg (by rw [q]; simp)] at this; rw [this]; go_num⟩
                case measure => simp [intOf]; omega
            · have ej : n = j := by omega
              subst ej
              have hz : ((occ xs s n : Int) - (occ xs s n : Int)) = 0 := by omega
              go_wp2_with fail
              go_round
              case rel => exact ⟨k + 1, by omega, by go_num⟩
              case measure => simp [intOf]; omega
    · go_wp2_with fail
      go_ret
      exact ⟨rfl, rfl⟩

end Go.Proofs.YtdlhhdhooacogaaGreatDoor

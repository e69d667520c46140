/-
  smList: the texts of a list joined.
-/
import Derived.Test.YtjemnnfnocmjlaaGreatGK
namespace Go.Proofs.YtjemnnfnocmjlaaGreat
open Go.RowKit

def commaW : ByteArray := ⟨#[44, 32]⟩

/-- The text of the first k names of a list. -/
def joinN (args : List ByteArray) : Nat → ByteArray
  | 0 => ⟨#[]⟩
  | k + 1 => (match k with
    | 0 => ⟨#[]⟩
    | j + 1 => joinN args (j + 1) ++ commaW) ++ args.getD k ⟨#[]⟩

def joinPre (args : List ByteArray) : Nat → ByteArray
  | 0 => ⟨#[]⟩
  | j + 1 => joinN args (j + 1) ++ commaW

theorem joinN_succ (args : List ByteArray) (k : Nat) : joinN args (k + 1) = joinPre args k ++ args.getD k ⟨#[]⟩ := by cases k <;> rfl

theorem joinN_size (args : List ByteArray) (h : ∀ x ∈ args, x.size ≤ 2147483647) (k : Nat) (hk : k ≤ args.length) : (joinN args k).size ≤ k * 2147483649 := by
  induction k with
  | zero => exact Nat.zero_le _
  | succ k ih =>
    have hx : (args.getD k ⟨#[]⟩).size ≤ 2147483647 := by
      have : args.getD k ⟨#[]⟩ = args[k]'(by omega) := by simp [List.getD, show k < args.length by omega]
      rw [this]
      exact h _ (List.getElem_mem _)
    have := ih (by omega)
    rw [Nat.add_mul]
    cases k with
    | zero =>
      simp only [joinN, ByteArray.size_append]
      show 0 + _ ≤ _
      omega
    | succ k =>
      rw [show joinN args (k + 1 + 1) = (joinN args (k + 1) ++ commaW) ++ args.getD (k + 1) ⟨#[]⟩ from rfl, ByteArray.size_append, ByteArray.size_append, show commaW.size = 2 from rfl]
      omega

theorem isEmpty_no {x : ByteArray} (h : ¬ x = ⟨#[]⟩) : x.toList.isEmpty = false := by
  have h1 := str_ne h
  have e : (ByteArray.mk #[]).toList = [] := by rw [ByteArray.toList_eq]
  rw [e] at h1
  cases hx : x.toList with
  | nil => rw [hx] at h1; simp at h1
  | cons a l => rfl

/-- What smList says: where it says yes, the joined text. -/
def ListSaid (ss : List ByteArray) (n : Nat) (w : World) (e : Ending) (w' : World) : Prop :=
  ∃ t ok, e = .returned (.tuple #[.string t, .bool ok]) ∧ (ok = true → n ≤ 1000 ∧ t = joinN ss n) ∧ w = w'

set_option maxHeartbeats 2000000 in
theorem list_any (a : Option Addr) (n cap : Nat) (ss : List ByteArray) (w : World) (h : Strs w a n ss) (hn : n ≤ 2147483648) (hm : ∀ s ∈ ss, s.size ≤ 2147483647) :
    Calls Tryz.prog 6 #[.slice a n cap] w (ListSaid ss n w) := by
  have HS := Lib.hid h
  have hlen := h.len
  clear h
  go_enter Tryz.func6, Tryz.ntmps6
  go_wp2_with fail
  go_loop [4, 9] (fun v i => ∃ k : Nat, k ≤ n ∧ i = .int .i64 k ∧ v = .string (joinN ss k) ∧ (0 < k → n ≤ 1000)) (fun _ i => n - (intOf i).toNat)
  case atStart => exact ⟨0, Nat.zero_le _, rfl, rfl, fun h => absurd h (by omega)⟩
  case round =>
    obtain ⟨k, hk, rfl, rfl, hkn⟩ := hrel
    by_cases hlt : k < n
    · obtain ⟨bl, off, rfl, hbl, hc⟩ := HS.out.cells (by omega)
      have hc1 := hc k hlt
      have hx : (ss.getD k ⟨#[]⟩).size ≤ 2147483647 := by
        have : ss.getD k ⟨#[]⟩ = ss[k]'(by omega) := by simp [List.getD, show k < ss.length by omega]
        rw [this]
        exact hm _ (List.getElem_mem _)
      have hstep := joinN_succ ss k
      have hz := joinN_size ss hm k (by omega)
      have HST := Lib.hid hstep
      clear hc hstep
      generalize ss.getD k ⟨#[]⟩ = x at *
      by_cases h0 : x = ⟨#[]⟩
      · subst h0
        clear hz HST
        go_wp2_with fail
        go_ret2
        exact ⟨_, _, rfl, fun h => (by cases h), rfl⟩
      · have h1 := isEmpty_no h0
        by_cases hbig : 1000 < n
        · clear hz HST
          go_wp2_with fail
          go_ret2
          exact ⟨_, _, rfl, fun h => (by cases h), rfl⟩
        · have hz2 : (joinN ss k).size ≤ 1000 * 2147483649 := Nat.le_trans hz (Nat.mul_le_mul_right _ (by omega))
          clear hz
          rcases Nat.eq_zero_or_pos k with hk0 | hk0
          · subst hk0
            rw [show joinN ss 0 = ⟨#[]⟩ from rfl] at *
            rw [Nat.add_zero] at hc1
            go_wp2_with fail
            go_round
            case rel => exact ⟨1, by omega, by go_num, by rw [HST.out]; rfl, fun _ => by omega⟩
            case measure => simp [intOf]; omega
          · obtain ⟨k, rfl⟩ : ∃ j, k = j + 1 := ⟨k - 1, by omega⟩
            generalize hY : joinN ss (k + 1) = Y at *
            have HY := Lib.hid hY
            clear hY
            go_wp2_with fail
            go_round
            case rel => exact ⟨k + 1 + 1, by omega, by go_num, by rw [HST.out, show joinPre ss (k + 1) = joinN ss (k + 1) ++ commaW from rfl, HY.out]; rfl, fun _ => by omega⟩
            case measure => simp [intOf]; omega
    · have e : k = n := by omega
      subst e
      go_wp2_with fail
      go_ret2
      exact ⟨_, _, rfl, fun _ => ⟨by rcases Nat.eq_zero_or_pos k with h | h; omega; exact hkn h, rfl⟩, rfl⟩

end Go.Proofs.YtjemnnfnocmjlaaGreat

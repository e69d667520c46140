/-
  The function types that the two laws make.
-/
import Derived.Test.YtjemnnfnocmjlaaGreatTC
namespace Go.Proofs.YtjemnnfnocmjlaaGreat
open Go.RowKit

/-- Some bool, and nothing has turned. -/
def SomeBool (w : World) (e : Ending) (w' : World) : Prop := ∃ b, e = .returned (.bool b) ∧ w = w'

set_option maxHeartbeats 1000000 in
theorem clean_any (s : ByteArray) (w : World) (hs : s.size ≤ 2147483647) :
    Calls Tryz.prog 7 #[.string s] w (SomeBool w) := by
  by_cases h0 : s = ⟨#[]⟩
  · subst h0
    go_enter Tryz.func7, Tryz.ntmps7
    go_wp2_with fail
    go_ret
    exact ⟨_, rfl, rfl⟩
  · have h1 := str_ne h0
    have h2 : 0 < s.size := by
      rcases Nat.eq_zero_or_pos s.size with h | h
      · exact absurd (ByteArray.ext (Array.eq_empty_of_size_eq_zero h)) h0
      · exact h
    go_enter Tryz.func7, Tryz.ntmps7
    go_wp2_with fail
    all_goals (go_ret; exact ⟨_, rfl, rfl⟩)

theorem stN_kept (σ : PS) (args : List ByteArray) (k : Nat) (K : List (Nat × Array Value × Nat)) : stN { σ with kept := K } args k = { stN σ args k with kept := K } := by
  induction k with
  | zero => rfl
  | succ k ih =>
    show (sepSt k (stN { σ with kept := K } args k)).text _ = _
    rw [ih]
    cases k <;> rfl

/-- The block that an interface value points to. -/
def blk : Value → Nat
  | .iface _ (.pointer (some a)) => a.block
  | _ => 0

theorem argSt_kept (σ : PS) (args : List ByteArray) (K : List (Nat × Array Value × Nat)) : argSt { σ with kept := K } args = { argSt σ args with kept := K } := by
  show ((stN { ((σ.scope (σ.scopes + 1)).byte 40) with kept := K } args args.length).scope σ.scopes).byte 41 = _
  rw [stN_kept]
  rfl

theorem stN_keptIs (σ : PS) (args : List ByteArray) (k : Nat) : (stN σ args k).kept = σ.kept := by
  induction k with
  | zero => rfl
  | succ k ih =>
    show (sepSt k (stN σ args k)).kept = _
    cases k <;> exact ih

theorem nrow_of {w : World} {B B' : Nat} {v : Value} {args : List ByteArray} {vs : List Value} (hown : w.ownsRow B 36 1 v args.length vs) (hn : Names w B' args vs) : NRow w.heap.size w v args (fun k => blk (vs.getD k undef)) := by
  have hels : ∀ k, k < args.length → El w.heap.size w (blk (vs.getD k undef)) #[.string (args.getD k ⟨#[]⟩)] 65 := fun k hk => by
    obtain ⟨b, e, _, hc⟩ := hn.2 k hk
    rw [e]
    exact ⟨lt_of_block hc, hc⟩
  rcases hown.2 with ⟨rfl, e⟩ | ⟨g, cap, cur, rfl, hb, hg, _⟩
  · exact ⟨none, 0, by rw [show args.length = 0 from e], fun h => by omega, hels⟩
  · refine ⟨_, cap, rfl, fun h0 => ⟨g, rfl, lt_of_block hg, fun k hk => ?_⟩, hels⟩
    obtain ⟨b, e, _, hc⟩ := hn.2 k hk
    have hk' : k < vs.length := by rw [hn.1]; exact hk
    have e2 : vs[k]? = some (vs.getD k undef) := by simp [List.getD, hk']
    rw [hown.cellAt k (by omega), e2]
    show some (vs.getD k undef) = some (.iface _ (.pointer (some ⟨blk (vs.getD k undef), 0, none⟩)))
    rw [e]
    rfl

/-- What 'functionType' hands back. -/
def FtMade (base : Value) (ss : List ByteArray) (w : World) (e : Ending) (w' : World) : Prop :=
  ∃ b v bfn, e = .returned (.pointer (some ⟨b, 0, none⟩)) ∧ El w'.heap.size w' b #[base, v, .bool false] 44 ∧ NRow b w' v ss bfn ∧ w.heap.size ≤ b ∧ w'.heap.size = b + 1 ∧ Below w.heap.size w w'

set_option maxHeartbeats 1000000 in
theorem functionType_any (TR : TypeId) (pR : Value) (a : Option Addr) (n cap : Nat) (ss : List ByteArray) (w : World) (h : Strs w a n ss) (hn : n ≤ 1000) :
    Calls Tryz.prog 15 #[.iface TR pR, .slice a n cap] w (FtMade (.iface TR pR) ss w) := by
  have HS := Lib.hid h
  clear h
  go_enter Tryz.func15, Tryz.ntmps15
  go_wp2_with fail
  refine (names_any a n cap ss w HS.out hn).mono ?_
  rintro e w1 ⟨v, vs, rfl, hown, hnm, hb⟩
  obtain ⟨av, nv, cv, rfl⟩ : ∃ a n c, v = .slice a n c := by
    rcases hown.2 with ⟨e, _⟩ | ⟨g, cap, cur, e, _⟩
    · exact ⟨_, _, _, e⟩
    · exact ⟨_, _, _, e⟩
  have hnr := nrow_of hown hnm
  have hb1 : Below w1.heap.size w1 (w1.alloc (.cells #[.iface TR pR, .slice av nv cv, .bool false] 44)) := (Below.refl _ _).alloc (Nat.le_refl _) _
  have H := Lib.hid (show FtMade (.iface TR pR) ss w (.returned (.pointer (some ⟨w1.heap.size, 0, none⟩))) (w1.alloc (.cells #[.iface TR pR, .slice av nv cv, .bool false] 44)) from
    ⟨_, _, _, rfl, ⟨by simp, heap_alloc_new _ _⟩, hnr.grow (Nat.le_refl _) hb1, hb.size, by simp, hb.trans (hb1.mono hb.size)⟩)
  clear hown hnm hb hnr hb1
  go_wp2_with fail
  go_ret
  exact H.out

end Go.Proofs.YtjemnnfnocmjlaaGreat

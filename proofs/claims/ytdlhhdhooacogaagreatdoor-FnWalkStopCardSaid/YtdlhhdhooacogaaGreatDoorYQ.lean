/-
  Kinds: the list of the kinds that are reached.
-/
import Derived.Test.YtdlhhdhooacogaaGreatDoorYP
namespace Go.Proofs.YtdlhhdhooacogaaGreatDoor
open Go.RowKit

theorem good_qual {kd tx : ByteArray} {nm : Int} {kids : List NT} (h : Good (.mk kd tx nm kids)) (hk : kd ∈ qualK) : ∃ k l, kids = [k, l] ∧ Good k := by
  have hne : ∀ K : List ByteArray, (∀ x ∈ K, x ∉ qualK) → kd ∉ K := fun K hK hm => hK kd hm hk
  cases h with
  | leaf h => exact absurd h (hne leafK (by simp [leafK, qualK]))
  | one h hg => exact absurd h (hne oneK (by simp [oneK, qualK]))
  | two h h1 h2 => exact absurd h (hne twoK (by simp [twoK, qualK]))
  | qual h h1 _ => exact ⟨_, _, rfl, h1⟩
  | list h _ => exact absurd h (hne listK (by simp [listK, qualK]))
  | tmpl h _ _ => subst h; simp [qualK] at hk
  | func h _ _ => subst h; simp [qualK] at hk
  | proc h _ _ => subst h; simp [qualK] at hk

theorem good_kids {kd tx : ByteArray} {nm : Int} {kids : List NT} (h : Good (.mk kd tx nm kids)) (hk : kd ∉ qualK) : ∀ k ∈ kids, Good k ∨ k.kind = ⟨#[]⟩ := by
  cases h with
  | leaf h => intro k hk; simp at hk
  | one h hg => intro k hk; simp at hk; subst hk; exact .inl hg
  | two h h1 h2 => intro k hk; simp at hk; rcases hk with rfl | rfl; exact .inl h1; exact .inl h2
  | qual h _ _ => exact absurd h hk
  | list h h1 => exact fun k hk => .inl (h1 k hk)
  | tmpl h h1 h2 => intro k hk; rcases List.mem_cons.1 hk with rfl | hk; exact .inl h1; exact .inl (h2 k hk)
  | func h h1 h2 => intro k hk; rcases List.mem_cons.1 hk with rfl | hk; exact .inl h1; exact .inl (h2 k hk)
  | proc h h1 h2 => intro k hk; rcases List.mem_cons.1 hk with rfl | hk; exact .inr h1; exact .inl (h2 k hk)

theorem Kids.front {w : World} {a : Option Addr} {k l : NT} (h : Kids w a [k, l]) : Kids w a [k] := by
  rcases h with h | ⟨b, off, e, h⟩
  · cases h
  · refine .inr ⟨b, off, e, fun i x hx => h i x ?_⟩
    cases i with
    | zero => exact hx
    | succ i => simp at hx

theorem eq_empty' {s : ByteArray} (h : s.toList.isEmpty = true) : s = ⟨#[]⟩ := by
  rw [ByteArray.toList_eq] at h
  cases s with
  | mk a => simp at h; subst h; rfl

/-- It hands back a new slice that reads as xs; what was there stands. -/
def Told (xs : List ByteArray) (w : World) (e : Ending) (w' : World) : Prop := ∃ v, e = .returned v ∧ w'.ownsRow w.heap.size 9 1 v xs.length (xs.map Value.string) ∧ Below w.heap.size w w'

theorem ownsRow_low {w : World} {lo lo' : Nat} {T : TypeId} {size : Nat} {v : Value} {n : Nat} {xs : List Value} (h : w.ownsRow lo T size v n xs) (hl : lo' ≤ lo) : w.ownsRow lo' T size v n xs := by
  refine ⟨h.1, ?_⟩
  rcases h.2 with h | ⟨g, cap, cur, e, hg, r⟩
  · exact .inl h
  · exact .inr ⟨g, cap, cur, e, by omega, r⟩

theorem flat_take (g : NT → List ByteArray) (l : List NT) (k : Nat) (hk : k < l.length) : (l.take (k + 1)).flatMap g = (l.take k).flatMap g ++ g (l.getD k default) := by
  rw [List.take_succ_eq_append_getElem hk, List.flatMap_append]
  simp [List.getD, hk]

theorem flat_take_le (g : NT → List ByteArray) (l : List NT) (k : Nat) (_ : k ≤ l.length) : ((l.take k).flatMap g).length ≤ (l.flatMap g).length := by
  have h : l.flatMap g = (l.take k).flatMap g ++ (l.drop k).flatMap g := by rw [← List.flatMap_append, List.take_append_drop]
  rw [h, List.length_append]
  omega

theorem kinds_len (stop : ByteArray) (d : Nat) : ∀ t, (kindsN stop d t).length ≤ cnt d t := by
  induction d with
  | zero => intro t; simp [kindsN]
  | succ d ih =>
    intro t
    cases t with
    | mk kind text num kids =>
      have hsum : ∀ l : List NT, (l.flatMap (kindsN stop d)).length ≤ (l.map (cnt d)).sum := by
        intro l
        induction l with
        | nil => simp
        | cons x xs ih2 => simp only [List.flatMap_cons, List.length_append, List.map_cons, List.sum_cons]; have := ih x; omega
      have htake : ((kids.take 1).map (cnt d)).sum ≤ (kids.map (cnt d)).sum := by
        cases kids with
        | nil => simp
        | cons x xs => simp
      simp only [kindsN, cnt]
      split
      · simp
      · simp only [List.length_cons]
        split
        · simp; 
        · have : ((keptOf kind kids).flatMap (kindsN stop d)).length ≤ (kids.map (cnt d)).sum := by
            unfold keptOf
            split
            · exact Nat.le_trans (hsum _) htake
            · exact hsum _
          omega

set_option maxRecDepth 100000 in
set_option maxHeartbeats 16000000 in
theorem kinds_any (d : Nat) : ∀ (t : NT) (kind text : ByteArray) (num : Int) (a : Option Addr) (n cap : Nat) (stop : ByteArray) (w : World), NV w [.string kind, .string text, .int .i64 num, .slice a n cap] t → Dep d t → (Good t ∨ t.kind = ⟨#[]⟩) → cnt d t ≤ 200 →
    Calls Tryz.prog 9 #[.agg #[.string kind, .string text, .int .i64 num, .slice a n cap], .string stop] w (Told (kindsN stop d t) w) := by
  induction d with
  | zero => intro t kind text num a n cap stop w h hd; exact absurd hd id
  | succ d ih =>
  intro t kind text num a n cap stop w h hd hg hc
  obtain ⟨kids, rfl, hz1, hz2, hn, hm, hk⟩ := h.kids
  have hcap := h.cap
  have IH := Lib.hid ih
  have HW := Lib.hid (below_new w (.cells #[.string kind, .string text, .int .i64 num, .slice a n cap] 24))
  have HX := Lib.hid (box_at h)
  have HN := Lib.hid hn
  have hm2 : n ≤ 9223372036854775807 := by unfold maxLen at hm; omega
  have HK := Lib.hid (hk.keep (below_new w (.cells #[.string kind, .string text, .int .i64 num, .slice a n cap] 24)))
  have HTOT := Lib.hid (show ((keptOf kind kids).flatMap (kindsN stop d)).length ≤ 200 ∨ True from .inr trivial)
  have hds : ∀ k ∈ kids, Dep d k := hd
  have hcs : ∀ k ∈ kids, cnt d k ≤ 200 := fun k hk => by have := cnt_kid (d := d) hk; simp only [cnt] at hc; omega
  have hlen : (kindsN stop (d + 1) (.mk kind text num kids)).length ≤ 200 := Nat.le_trans (kinds_len stop (d + 1) _) hc
  clear ih
  rcases bt kind.toList.isEmpty with q0 | q0
  · have e0 := eq_empty' q0
    have HE := Lib.hid (show kindsN stop (d + 1) (.mk kind text num kids) = [] by rw [kindsN, if_pos e0])
    clear h hd hg hc hk hn hm hz1 hz2 hds hcs hlen e0 hcap
    go_enter Tryz.func9, Tryz.ntmps9
    go_wp2_with fail
    go_ret
    rw [HE.out]
    exact ⟨_, rfl, World.ownsRow_nil _ _ _ _, HW.out⟩
  have hne : kind ≠ ⟨#[]⟩ := fun e => by subst e; simp at q0
  have hgood : Good (.mk kind text num kids) := hg.resolve_right hne
  rcases bt (kind.toList == stop.toList) with q1 | q1
  · have HE := Lib.hid (show kindsN stop (d + 1) (.mk kind text num kids) = [kind] by rw [kindsN, if_neg hne, if_pos (eq_stop q1)])
    have HL := Lib.hid (World.ownsRow_lit (base := w.heap.size) (e := 9) (size := 1) (w.alloc (.cells #[.string kind, .string text, .int .i64 num, .slice a n cap] 24)) #[.string kind] 1 (by simp) (by decide) rfl)
    clear h hd hg hc hk hn hm hz1 hz2 hds hcs hlen hne hgood hcap
    go_enter Tryz.func9, Tryz.ntmps9
    go_wp2_with fail
    go_ret
    rw [HE.out]
    exact ⟨_, rfl, by have := HL.out; simpa using this, behind HW.out (below_new _ _)⟩
  have hns := ne_stop q1
  obtain ⟨i0, hi, hz0, hz1, hz2⟩ := info_parts Tryz.infoString
  have hrow : ((w.alloc (.cells #[.string kind, .string text, .int .i64 num, .slice a n cap] 24)).alloc (.cells #[.string kind] 9)).ownsRow (w.alloc (.cells #[.string kind, .string text, .int .i64 num, .slice a n cap] 24)).heap.size 9 1 (.slice (some ⟨w.heap.size + 1, 0, none⟩) 1 1) 1 [.string kind] := by
    have := World.ownsRow_lit (base := (w.alloc (.cells #[.string kind, .string text, .int .i64 num, .slice a n cap] 24)).heap.size) (e := 9) (size := 1) (w.alloc (.cells #[.string kind, .string text, .int .i64 num, .slice a n cap] 24)) #[.string kind] 1 (Nat.le_refl _) (by decide) rfl
    simpa using this
  have HROW := Lib.hid hrow
  have HB1 := Lib.hid (below_new (w.alloc (.cells #[.string kind, .string text, .int .i64 num, .slice a n cap] 24)) (.cells #[.string kind] 9))
  clear hrow
  rcases bt (kind.toList == [84, 121, 112, 101, 87, 105, 116, 104, 81, 117, 97, 108, 105, 102, 105, 101, 114, 115]) with qTypeWithQualifiers | qTypeWithQualifiers
  · obtain ⟨x0, y0, ek, hgx⟩ := good_qual hgood (memK qTypeWithQualifiers (by simp [qualK]))
    subst ek
    obtain rfl : n = 2 := hn
    have HK2 := Lib.hid HK.out.front
    have HG2 := Lib.hid (show ∀ k ∈ [x0], Good k ∨ k.kind = ⟨#[]⟩ from fun k hk => by simp at hk; subst hk; exact .inl hgx)
    have hkept : keptOf kind [x0, y0] = [x0] := by unfold keptOf; rw [if_pos (by simpa [qualK] using memK (K := qualK) qTypeWithQualifiers (by simp [qualK]))]; rfl
    clear HK HN hgx
    have HD2 := Lib.hid (show ∀ k ∈ [x0], Dep d k from fun k hk => hds k (by simp at hk; simp [hk]))
    have HC2 := Lib.hid (show ∀ k ∈ [x0], cnt d k ≤ 200 from fun k hk => hcs k (by simp at hk; simp [hk]))
    have HN2 := Lib.hid (show 1 = [x0].length from rfl)
    have HE := Lib.hid (show kindsN stop (d + 1) (.mk kind text num [x0, y0]) = kind :: [x0].flatMap (kindsN stop d) by rw [kindsN, if_neg hne, if_neg hns, hkept])
    have HTOT := Lib.hid (show ([x0].flatMap (kindsN stop d)).length ≤ 200 by have h1 := hlen; rw [HE.out] at h1; simp only [List.length_cons] at h1; omega)
    have HO1 := Lib.hid (show ((w.alloc (.cells #[.string kind, .string text, .int .i64 num, .slice a 2 cap] 24)).alloc (.cells #[.string kind] 9)).ownsRow (w.alloc (.cells #[.string kind, .string text, .int .i64 num, .slice a 2 cap] 24)).heap.size 9 1 (.slice (some ⟨w.heap.size + 1, 0, none⟩) 1 1) (kind :: ([x0].take 0).flatMap (kindsN stop d)).length ((kind :: ([x0].take 0).flatMap (kindsN stop d)).map Value.string) by simpa using HROW.out)
    clear h hd hg hc hk hm hds hcs hlen hne hgood hns
    go_enter Tryz.func9, Tryz.ntmps9
    go_wp2_with fail
    clear HX HROW
    generalize (w.alloc (.cells #[.string kind, .string text, .int .i64 num, .slice a 2 cap] 24)) = w0 at *
    go_loopw [34, 5] (fun i v wr => ∃ (k : Nat), k ≤ 1 ∧ i = .int .i64 k ∧ Below w0.heap.size w0 wr ∧ wr.ownsRow w0.heap.size 9 1 v (kind :: ([x0].take k).flatMap (kindsN stop d)).length ((kind :: ([x0].take k).flatMap (kindsN stop d)).map Value.string)) (fun i _ _ => 1 - (intOf i).toNat)
    case atStart => exact ⟨0, Nat.zero_le _, rfl, HB1.out, HO1.out⟩
    case round =>
      obtain ⟨k, hkn, rfl, hbw, hown⟩ := hrel
      by_cases hlt : k < 1
      · have hlt2 : (k : Int) < ((1 : Nat) : Int) := by omega
        have hlk : k < [x0].length := by rw [← HN2.out]; exact hlt
        obtain ⟨b, off, kd, tx, nm, a1, n1, cap1, rfl, hx⟩ := (HK2.out.keep hbw).nth k hlk
        obtain ⟨g0, g1, g2, g3⟩ := hx.cells
        have HC := Lib.hid (IH.out _ kd tx nm a1 n1 cap1 stop _ (hx.nv.keep (below_new wr (.cells #[.string kd, .string tx, .int .i64 nm, .slice a1 n1 cap1] 24))) (HD2.out _ (getD_mem hlk)) (HG2.out _ (getD_mem hlk)) (HC2.out _ (getD_mem hlk)))
        have HF := Lib.hid (flat_take (kindsN stop d) [x0] k hlk)
        have HLE := Lib.hid (flat_take_le (kindsN stop d) [x0] (k + 1) (by omega))
        have HBN := Lib.hid (behind hbw (below_new wr (.cells #[.string kd, .string tx, .int .i64 nm, .slice a1 n1 cap1] 24)))
        have HOWN := Lib.hid (hown.alloc (.cells #[.string kd, .string tx, .int .i64 nm, .slice a1 n1 cap1] 24))
        clear hx hown hbw hlk
        generalize hks : kindsN stop d ([x0].getD k default) = ks at *
        clear hks
        generalize hxs : (kind :: ([x0].take k).flatMap (kindsN stop d)) = xs at *
        have HXS := Lib.hid hxs
        clear hxs
        go_wp2_with fail
        refine HC.out.mono ?_
        rintro e w2 ⟨v2, rfl, hown2, hb2⟩
        have hown1 := HOWN.out.kept (show (wr.alloc _).grownBy w2 none from ⟨hb2.os, hb2.tape, hb2.output, hb2.size, fun k hk _ => hb2.block k hk⟩) (by cases hv : u5.ownBlock <;> simp)
        have HB3 := Lib.hid (behind HBN.out hb2)
        have hsz : w0.heap.size ≤ w2.heap.size := HB3.out.size
        have hlen : xs.length + ks.length ≤ 201 := by
          have h1 := HLE.out
          rw [HF.out, List.length_append] at h1
          have h2 := HTOT.out
          rw [← HXS.out]
          simp only [List.length_cons]
          omega
        clear hb2
        have fin : ∀ v3 w3, w3.ownsRow w0.heap.size 9 1 v3 (xs.length + ks.length) (xs.map Value.string ++ ks.map Value.string) → w2.grownBy w3 u5.ownBlock →
            Below w0.heap.size w0 w3 ∧ w3.ownsRow w0.heap.size 9 1 v3 (kind :: ([x0].take (k + 1)).flatMap (kindsN stop d)).length ((kind :: ([x0].take (k + 1)).flatMap (kindsN stop d)).map Value.string) := by
          intro v3 w3 h5 h6
          refine ⟨HB3.out.grown h6 hsz (fun k hk => (HOWN.out.lt k hk).1), ?_⟩
          rw [HF.out]
          have e1 : (kind :: (([x0].take k).flatMap (kindsN stop d) ++ ks)).length = xs.length + ks.length := by rw [← HXS.out]; simp only [List.length_cons, List.length_append]; omega
          have e2 : (kind :: (([x0].take k).flatMap (kindsN stop d) ++ ks)).map Value.string = xs.map Value.string ++ ks.map Value.string := by rw [← HXS.out]; simp
          rw [e1, e2]
          exact h5
        have FIN := Lib.hid fin
        have HLN := Lib.hid hlen
        clear fin hlen
        rcases hown2.2 with ⟨rfl, hz⟩ | ⟨g2, cap2, cur2, rfl, hg2, hr2⟩
        · have hks0 : ks = [] := List.eq_nil_of_length_eq_zero hz
          subst hks0
          have hf := FIN.out
          simp only [List.length_nil, Nat.add_zero, List.map_nil, List.append_nil] at hf
          have FIN0 := Lib.hid hf
          clear hown2 hz hf
          go_wp2_with (at_builtin; refine wpList_append_srcB _ rfl _ _ 27 27 rfl w0.heap.size 9 i0 (.string ⟨#[]⟩) 1 16 Tryz.underlying27 hi hz0 hz1 hz2 rfl _ _ _ _ rfl rfl hown1 0 [] (Src.ofNil _ Tryz.underlying27 0) ?c3 (by have := HLN.out; omega) hsz ?_)
          case c3 => have := HLN.out; unfold maxLen; omega
          intro v3 w3 h5 h6 _
          obtain ⟨hb4, hown4⟩ := FIN0.out v3 w3 h5 h6
          have HB4 := Lib.hid hb4
          have HO4 := Lib.hid hown4
          clear h5 h6 hb4 hown4 hown1
          go_wp2_with fail
          go_roundw
          case rel => exact ⟨k + 1, by omega, by go_num, HB4.out, HO4.out⟩
          case measure => simp [intOf]; omega
        · have hcell : ∀ j u, (ks.map Value.string)[j]? = some u → w2.cell? ((⟨g2, 0, none⟩ : Addr).add j) = some u := by
            intro j u hu
            have hj : j < ks.length := by have := (List.getElem?_eq_some_iff.1 hu).1; simpa using this
            have := hown2.cellAt j (by omega)
            rw [hu] at this
            rw [Addr.add_lit]
            simpa using this
          have hone : ∀ u ∈ ks.map Value.string, u.oneCell' = true := by
            intro u hu
            obtain ⟨x, _, rfl⟩ := List.mem_map.1 hu
            rfl
          have HSRC := Lib.hid (Src.ofSlice (P := Tryz.prog) (size := 1) w2 Tryz.underlying27 ⟨g2, 0, none⟩ ks.length cap2 (ks.map Value.string) (by simp) hcell hone)
          clear hown2 hcell hone hr2
          go_wp2_with (at_builtin; refine wpList_append_srcB _ rfl _ _ 27 27 rfl w0.heap.size 9 i0 (.string ⟨#[]⟩) 1 16 Tryz.underlying27 hi hz0 hz1 hz2 rfl _ _ _ _ rfl rfl hown1 ks.length (ks.map Value.string) HSRC.out ?c3 (by have := HLN.out; omega) hsz ?_)
          case c3 => have := HLN.out; unfold maxLen; omega
          intro v3 w3 h5 h6 _
          obtain ⟨hb4, hown4⟩ := FIN.out v3 w3 h5 h6
          have HB4 := Lib.hid hb4
          have HO4 := Lib.hid hown4
          clear h5 h6 hb4 hown4 hown1
          go_wp2_with fail
          go_roundw
          case rel => exact ⟨k + 1, by omega, by go_num, HB4.out, HO4.out⟩
          case measure => simp [intOf]; omega
      · obtain rfl : k = 1 := by omega
        have HOW := Lib.hid hown
        have HBW := Lib.hid hbw
        clear hown hbw
        go_wp2_with fail
        go_ret
        have h1 := HOW.out
        rw [List.take_of_length_le (by rw [← HN2.out]; exact Nat.le_refl _)] at h1
        rw [HE.out]
        exact ⟨_, rfl, ownsRow_low h1 (by have := HW.out.size; exact this), behind HW.out HBW.out⟩
  rcases bt (kind.toList == [77, 101, 116, 104, 111, 100, 87, 105, 116, 104, 81, 117, 97, 108, 105, 102, 105, 101, 114, 115]) with qMethodWithQualifiers | qMethodWithQualifiers
  · obtain ⟨x0, y0, ek, hgx⟩ := good_qual hgood (memK qMethodWithQualifiers (by simp [qualK]))
    subst ek
    obtain rfl : n = 2 := hn
    have HK2 := Lib.hid HK.out.front
    have HG2 := Lib.hid (show ∀ k ∈ [x0], Good k ∨ k.kind = ⟨#[]⟩ from fun k hk => by simp at hk; subst hk; exact .inl hgx)
    have hkept : keptOf kind [x0, y0] = [x0] := by unfold keptOf; rw [if_pos (by simpa [qualK] using memK (K := qualK) qMethodWithQualifiers (by simp [qualK]))]; rfl
    clear HK HN hgx
    have HD2 := Lib.hid (show ∀ k ∈ [x0], Dep d k from fun k hk => hds k (by simp at hk; simp [hk]))
    have HC2 := Lib.hid (show ∀ k ∈ [x0], cnt d k ≤ 200 from fun k hk => hcs k (by simp at hk; simp [hk]))
    have HN2 := Lib.hid (show 1 = [x0].length from rfl)
    have HE := Lib.hid (show kindsN stop (d + 1) (.mk kind text num [x0, y0]) = kind :: [x0].flatMap (kindsN stop d) by rw [kindsN, if_neg hne, if_neg hns, hkept])
    have HTOT := Lib.hid (show ([x0].flatMap (kindsN stop d)).length ≤ 200 by have h1 := hlen; rw [HE.out] at h1; simp only [List.length_cons] at h1; omega)
    have HO1 := Lib.hid (show ((w.alloc (.cells #[.string kind, .string text, .int .i64 num, .slice a 2 cap] 24)).alloc (.cells #[.string kind] 9)).ownsRow (w.alloc (.cells #[.string kind, .string text, .int .i64 num, .slice a 2 cap] 24)).heap.size 9 1 (.slice (some ⟨w.heap.size + 1, 0, none⟩) 1 1) (kind :: ([x0].take 0).flatMap (kindsN stop d)).length ((kind :: ([x0].take 0).flatMap (kindsN stop d)).map Value.string) by simpa using HROW.out)
    clear h hd hg hc hk hm hds hcs hlen hne hgood hns
    go_enter Tryz.func9, Tryz.ntmps9
    go_wp2_with fail
    clear HX HROW
    generalize (w.alloc (.cells #[.string kind, .string text, .int .i64 num, .slice a 2 cap] 24)) = w0 at *
    go_loopw [34, 5] (fun i v wr => ∃ (k : Nat), k ≤ 1 ∧ i = .int .i64 k ∧ Below w0.heap.size w0 wr ∧ wr.ownsRow w0.heap.size 9 1 v (kind :: ([x0].take k).flatMap (kindsN stop d)).length ((kind :: ([x0].take k).flatMap (kindsN stop d)).map Value.string)) (fun i _ _ => 1 - (intOf i).toNat)
    case atStart => exact ⟨0, Nat.zero_le _, rfl, HB1.out, HO1.out⟩
    case round =>
      obtain ⟨k, hkn, rfl, hbw, hown⟩ := hrel
      by_cases hlt : k < 1
      · have hlt2 : (k : Int) < ((1 : Nat) : Int) := by omega
        have hlk : k < [x0].length := by rw [← HN2.out]; exact hlt
        obtain ⟨b, off, kd, tx, nm, a1, n1, cap1, rfl, hx⟩ := (HK2.out.keep hbw).nth k hlk
        obtain ⟨g0, g1, g2, g3⟩ := hx.cells
        have HC := Lib.hid (IH.out _ kd tx nm a1 n1 cap1 stop _ (hx.nv.keep (below_new wr (.cells #[.string kd, .string tx, .int .i64 nm, .slice a1 n1 cap1] 24))) (HD2.out _ (getD_mem hlk)) (HG2.out _ (getD_mem hlk)) (HC2.out _ (getD_mem hlk)))
        have HF := Lib.hid (flat_take (kindsN stop d) [x0] k hlk)
        have HLE := Lib.hid (flat_take_le (kindsN stop d) [x0] (k + 1) (by omega))
        have HBN := Lib.hid (behind hbw (below_new wr (.cells #[.string kd, .string tx, .int .i64 nm, .slice a1 n1 cap1] 24)))
        have HOWN := Lib.hid (hown.alloc (.cells #[.string kd, .string tx, .int .i64 nm, .slice a1 n1 cap1] 24))
        clear hx hown hbw hlk
        generalize hks : kindsN stop d ([x0].getD k default) = ks at *
        clear hks
        generalize hxs : (kind :: ([x0].take k).flatMap (kindsN stop d)) = xs at *
        have HXS := Lib.hid hxs
        clear hxs
        go_wp2_with fail
        refine HC.out.mono ?_
        rintro e w2 ⟨v2, rfl, hown2, hb2⟩
        have hown1 := HOWN.out.kept (show (wr.alloc _).grownBy w2 none from ⟨hb2.os, hb2.tape, hb2.output, hb2.size, fun k hk _ => hb2.block k hk⟩) (by cases hv : u5.ownBlock <;> simp)
        have HB3 := Lib.hid (behind HBN.out hb2)
        have hsz : w0.heap.size ≤ w2.heap.size := HB3.out.size
        have hlen : xs.length + ks.length ≤ 201 := by
          have h1 := HLE.out
          rw [HF.out, List.length_append] at h1
          have h2 := HTOT.out
          rw [← HXS.out]
          simp only [List.length_cons]
          omega
        clear hb2
        have fin : ∀ v3 w3, w3.ownsRow w0.heap.size 9 1 v3 (xs.length + ks.length) (xs.map Value.string ++ ks.map Value.string) → w2.grownBy w3 u5.ownBlock →
            Below w0.heap.size w0 w3 ∧ w3.ownsRow w0.heap.size 9 1 v3 (kind :: ([x0].take (k + 1)).flatMap (kindsN stop d)).length ((kind :: ([x0].take (k + 1)).flatMap (kindsN stop d)).map Value.string) := by
          intro v3 w3 h5 h6
          refine ⟨HB3.out.grown h6 hsz (fun k hk => (HOWN.out.lt k hk).1), ?_⟩
          rw [HF.out]
          have e1 : (kind :: (([x0].take k).flatMap (kindsN stop d) ++ ks)).length = xs.length + ks.length := by rw [← HXS.out]; simp only [List.length_cons, List.length_append]; omega
          have e2 : (kind :: (([x0].take k).flatMap (kindsN stop d) ++ ks)).map Value.string = xs.map Value.string ++ ks.map Value.string := by rw [← HXS.out]; simp
          rw [e1, e2]
          exact h5
        have FIN := Lib.hid fin
        have HLN := Lib.hid hlen
        clear fin hlen
        rcases hown2.2 with ⟨rfl, hz⟩ | ⟨g2, cap2, cur2, rfl, hg2, hr2⟩
        · have hks0 : ks = [] := List.eq_nil_of_length_eq_zero hz
          subst hks0
          have hf := FIN.out
          simp only [List.length_nil, Nat.add_zero, List.map_nil, List.append_nil] at hf
          have FIN0 := Lib.hid hf
          clear hown2 hz hf
          go_wp2_with (at_builtin; refine wpList_append_srcB _ rfl _ _ 27 27 rfl w0.heap.size 9 i0 (.string ⟨#[]⟩) 1 16 Tryz.underlying27 hi hz0 hz1 hz2 rfl _ _ _ _ rfl rfl hown1 0 [] (Src.ofNil _ Tryz.underlying27 0) ?c3 (by have := HLN.out; omega) hsz ?_)
          case c3 => have := HLN.out; unfold maxLen; omega
          intro v3 w3 h5 h6 _
          obtain ⟨hb4, hown4⟩ := FIN0.out v3 w3 h5 h6
          have HB4 := Lib.hid hb4
          have HO4 := Lib.hid hown4
          clear h5 h6 hb4 hown4 hown1
          go_wp2_with fail
          go_roundw
          case rel => exact ⟨k + 1, by omega, by go_num, HB4.out, HO4.out⟩
          case measure => simp [intOf]; omega
        · have hcell : ∀ j u, (ks.map Value.string)[j]? = some u → w2.cell? ((⟨g2, 0, none⟩ : Addr).add j) = some u := by
            intro j u hu
            have hj : j < ks.length := by have := (List.getElem?_eq_some_iff.1 hu).1; simpa using this
            have := hown2.cellAt j (by omega)
            rw [hu] at this
            rw [Addr.add_lit]
            simpa using this
          have hone : ∀ u ∈ ks.map Value.string, u.oneCell' = true := by
            intro u hu
            obtain ⟨x, _, rfl⟩ := List.mem_map.1 hu
            rfl
          have HSRC := Lib.hid (Src.ofSlice (P := Tryz.prog) (size := 1) w2 Tryz.underlying27 ⟨g2, 0, none⟩ ks.length cap2 (ks.map Value.string) (by simp) hcell hone)
          clear hown2 hcell hone hr2
          go_wp2_with (at_builtin; refine wpList_append_srcB _ rfl _ _ 27 27 rfl w0.heap.size 9 i0 (.string ⟨#[]⟩) 1 16 Tryz.underlying27 hi hz0 hz1 hz2 rfl _ _ _ _ rfl rfl hown1 ks.length (ks.map Value.string) HSRC.out ?c3 (by have := HLN.out; omega) hsz ?_)
          case c3 => have := HLN.out; unfold maxLen; omega
          intro v3 w3 h5 h6 _
          obtain ⟨hb4, hown4⟩ := FIN.out v3 w3 h5 h6
          have HB4 := Lib.hid hb4
          have HO4 := Lib.hid hown4
          clear h5 h6 hb4 hown4 hown1
          go_wp2_with fail
          go_roundw
          case rel => exact ⟨k + 1, by omega, by go_num, HB4.out, HO4.out⟩
          case measure => simp [intOf]; omega
      · obtain rfl : k = 1 := by omega
        have HOW := Lib.hid hown
        have HBW := Lib.hid hbw
        clear hown hbw
        go_wp2_with fail
        go_ret
        have h1 := HOW.out
        rw [List.take_of_length_le (by rw [← HN2.out]; exact Nat.le_refl _)] at h1
        rw [HE.out]
        exact ⟨_, rfl, ownsRow_low h1 (by have := HW.out.size; exact this), behind HW.out HBW.out⟩
  have hnq : ¬ (kind = ⟨#[84, 121, 112, 101, 87, 105, 116, 104, 81, 117, 97, 108, 105, 102, 105, 101, 114, 115]⟩ ∨ kind = ⟨#[77, 101, 116, 104, 111, 100, 87, 105, 116, 104, 81, 117, 97, 108, 105, 102, 105, 101, 114, 115]⟩) := by
    rintro (e | e)
    · rw [e] at qTypeWithQualifiers; simp at qTypeWithQualifiers
    · rw [e] at qMethodWithQualifiers; simp at qMethodWithQualifiers
  have HK2 := Lib.hid HK.out
  have HG2 := Lib.hid (good_kids hgood (by simpa [qualK] using hnq))
  have hkept : keptOf kind kids = kids := by unfold keptOf; rw [if_neg hnq]
  clear HK HN
  have HD2 := Lib.hid (show ∀ k ∈ kids, Dep d k from fun k hk => hds k (hk))
  have HC2 := Lib.hid (show ∀ k ∈ kids, cnt d k ≤ 200 from fun k hk => hcs k (hk))
  have HN2 := Lib.hid (show n = kids.length from hn)
  have HE := Lib.hid (show kindsN stop (d + 1) (.mk kind text num kids) = kind :: kids.flatMap (kindsN stop d) by rw [kindsN, if_neg hne, if_neg hns, hkept])
  have HTOT := Lib.hid (show (kids.flatMap (kindsN stop d)).length ≤ 200 by have h1 := hlen; rw [HE.out] at h1; simp only [List.length_cons] at h1; omega)
  have HO1 := Lib.hid (show ((w.alloc (.cells #[.string kind, .string text, .int .i64 num, .slice a n cap] 24)).alloc (.cells #[.string kind] 9)).ownsRow (w.alloc (.cells #[.string kind, .string text, .int .i64 num, .slice a n cap] 24)).heap.size 9 1 (.slice (some ⟨w.heap.size + 1, 0, none⟩) 1 1) (kind :: (kids.take 0).flatMap (kindsN stop d)).length ((kind :: (kids.take 0).flatMap (kindsN stop d)).map Value.string) by simpa using HROW.out)
  clear h hd hg hc hk hn hm hds hcs hlen hne hgood hns hnq
  go_enter Tryz.func9, Tryz.ntmps9
  go_wp2_with fail
  clear HX HROW
  generalize (w.alloc (.cells #[.string kind, .string text, .int .i64 num, .slice a n cap] 24)) = w0 at *
  go_loopw [34, 5] (fun i v wr => ∃ (k : Nat), k ≤ n ∧ i = .int .i64 k ∧ Below w0.heap.size w0 wr ∧ wr.ownsRow w0.heap.size 9 1 v (kind :: (kids.take k).flatMap (kindsN stop d)).length ((kind :: (kids.take k).flatMap (kindsN stop d)).map Value.string)) (fun i _ _ => n - (intOf i).toNat)
  case atStart => exact ⟨0, Nat.zero_le _, rfl, HB1.out, HO1.out⟩
  case round =>
    obtain ⟨k, hkn, rfl, hbw, hown⟩ := hrel
    by_cases hlt : k < n
    · have hlt2 : (k : Int) < ((n : Nat) : Int) := by omega
      have hlk : k < kids.length := by rw [← HN2.out]; exact hlt
      obtain ⟨b, off, kd, tx, nm, a1, n1, cap1, rfl, hx⟩ := (HK2.out.keep hbw).nth k hlk
      obtain ⟨g0, g1, g2, g3⟩ := hx.cells
      have HC := Lib.hid (IH.out _ kd tx nm a1 n1 cap1 stop _ (hx.nv.keep (below_new wr (.cells #[.string kd, .string tx, .int .i64 nm, .slice a1 n1 cap1] 24))) (HD2.out _ (getD_mem hlk)) (HG2.out _ (getD_mem hlk)) (HC2.out _ (getD_mem hlk)))
      have HF := Lib.hid (flat_take (kindsN stop d) kids k hlk)
      have HLE := Lib.hid (flat_take_le (kindsN stop d) kids (k + 1) (by omega))
      have HBN := Lib.hid (behind hbw (below_new wr (.cells #[.string kd, .string tx, .int .i64 nm, .slice a1 n1 cap1] 24)))
      have HOWN := Lib.hid (hown.alloc (.cells #[.string kd, .string tx, .int .i64 nm, .slice a1 n1 cap1] 24))
      clear hx hown hbw hlk
      generalize hks : kindsN stop d (kids.getD k default) = ks at *
      clear hks
      generalize hxs : (kind :: (kids.take k).flatMap (kindsN stop d)) = xs at *
      have HXS := Lib.hid hxs
      clear hxs
      go_wp2_with fail
      refine HC.out.mono ?_
      rintro e w2 ⟨v2, rfl, hown2, hb2⟩
      have hown1 := HOWN.out.kept (show (wr.alloc _).grownBy w2 none from ⟨hb2.os, hb2.tape, hb2.output, hb2.size, fun k hk _ => hb2.block k hk⟩) (by cases hv : u5.ownBlock <;> simp)
      have HB3 := Lib.hid (behind HBN.out hb2)
      have hsz : w0.heap.size ≤ w2.heap.size := HB3.out.size
      have hlen : xs.length + ks.length ≤ 201 := by
        have h1 := HLE.out
        rw [HF.out, List.length_append] at h1
        have h2 := HTOT.out
        rw [← HXS.out]
        simp only [List.length_cons]
        omega
      clear hb2
      have fin : ∀ v3 w3, w3.ownsRow w0.heap.size 9 1 v3 (xs.length + ks.length) (xs.map Value.string ++ ks.map Value.string) → w2.grownBy w3 u5.ownBlock →
          Below w0.heap.size w0 w3 ∧ w3.ownsRow w0.heap.size 9 1 v3 (kind :: (kids.take (k + 1)).flatMap (kindsN stop d)).length ((kind :: (kids.take (k + 1)).flatMap (kindsN stop d)).map Value.string) := by
        intro v3 w3 h5 h6
        refine ⟨HB3.out.grown h6 hsz (fun k hk => (HOWN.out.lt k hk).1), ?_⟩
        rw [HF.out]
        have e1 : (kind :: ((kids.take k).flatMap (kindsN stop d) ++ ks)).length = xs.length + ks.length := by rw [← HXS.out]; simp only [List.length_cons, List.length_append]; omega
        have e2 : (kind :: ((kids.take k).flatMap (kindsN stop d) ++ ks)).map Value.string = xs.map Value.string ++ ks.map Value.string := by rw [← HXS.out]; simp
        rw [e1, e2]
        exact h5
      have FIN := Lib.hid fin
      have HLN := Lib.hid hlen
      clear fin hlen
      rcases hown2.2 with ⟨rfl, hz⟩ | ⟨g2, cap2, cur2, rfl, hg2, hr2⟩
      · have hks0 : ks = [] := List.eq_nil_of_length_eq_zero hz
        subst hks0
        have hf := FIN.out
        simp only [List.length_nil, Nat.add_zero, List.map_nil, List.append_nil] at hf
        have FIN0 := Lib.hid hf
        clear hown2 hz hf
        go_wp2_with (at_builtin; refine wpList_append_srcB _ rfl _ _ 27 27 rfl w0.heap.size 9 i0 (.string ⟨#[]⟩) 1 16 Tryz.underlying27 hi hz0 hz1 hz2 rfl _ _ _ _ rfl rfl hown1 0 [] (Src.ofNil _ Tryz.underlying27 0) ?c3 (by have := HLN.out; omega) hsz ?_)
        case c3 => have := HLN.out; unfold maxLen; omega
        intro v3 w3 h5 h6 _
        obtain ⟨hb4, hown4⟩ := FIN0.out v3 w3 h5 h6
        have HB4 := Lib.hid hb4
        have HO4 := Lib.hid hown4
        clear h5 h6 hb4 hown4 hown1
        go_wp2_with fail
        go_roundw
        case rel => exact ⟨k + 1, by omega, by go_num, HB4.out, HO4.out⟩
        case measure => simp [intOf]; omega
      · have hcell : ∀ j u, (ks.map Value.string)[j]? = some u → w2.cell? ((⟨g2, 0, none⟩ : Addr).add j) = some u := by
          intro j u hu
          have hj : j < ks.length := by have := (List.getElem?_eq_some_iff.1 hu).1; simpa using this
          have := hown2.cellAt j (by omega)
          rw [hu] at this
          rw [Addr.add_lit]
          simpa using this
        have hone : ∀ u ∈ ks.map Value.string, u.oneCell' = true := by
          intro u hu
          obtain ⟨x, _, rfl⟩ := List.mem_map.1 hu
          rfl
        have HSRC := Lib.hid (Src.ofSlice (P := Tryz.prog) (size := 1) w2 Tryz.underlying27 ⟨g2, 0, none⟩ ks.length cap2 (ks.map Value.string) (by simp) hcell hone)
        clear hown2 hcell hone hr2
        go_wp2_with (at_builtin; refine wpList_append_srcB _ rfl _ _ 27 27 rfl w0.heap.size 9 i0 (.string ⟨#[]⟩) 1 16 Tryz.underlying27 hi hz0 hz1 hz2 rfl _ _ _ _ rfl rfl hown1 ks.length (ks.map Value.string) HSRC.out ?c3 (by have := HLN.out; omega) hsz ?_)
        case c3 => have := HLN.out; unfold maxLen; omega
        intro v3 w3 h5 h6 _
        obtain ⟨hb4, hown4⟩ := FIN.out v3 w3 h5 h6
        have HB4 := Lib.hid hb4
        have HO4 := Lib.hid hown4
        clear h5 h6 hb4 hown4 hown1
        go_wp2_with fail
        go_roundw
        case rel => exact ⟨k + 1, by omega, by go_num, HB4.out, HO4.out⟩
        case measure => simp [intOf]; omega
    · obtain rfl : k = n := by omega
      have HOW := Lib.hid hown
      have HBW := Lib.hid hbw
      clear hown hbw
      go_wp2_with fail
      go_ret
      have h1 := HOW.out
      rw [List.take_of_length_le (by rw [← HN2.out]; exact Nat.le_refl _)] at h1
      rw [HE.out]
      exact ⟨_, rfl, ownsRow_low h1 (by have := HW.out.size; exact this), behind HW.out HBW.out⟩

end Go.Proofs.YtdlhhdhooacogaaGreatDoor

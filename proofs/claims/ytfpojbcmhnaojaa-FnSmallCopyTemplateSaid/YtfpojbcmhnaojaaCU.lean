/-
  Copy at a Template of Names: a new Template with the other names in the places of some, or nil.
-/
import Derived.Test.YtfpojbcmhnaojaaCT
namespace Go.Proofs.Ytfpojbcmhnaojaa
open Go.RowKit

def ren (frm to s : ByteArray) : ByteArray := if s = frm then to else s

/-- One of the texts is the text sought. -/
def hitB (frm : ByteArray) (ss : List ByteArray) : Bool := ss.any fun s => decide (s = frm)

theorem hit_snoc (frm s : ByteArray) (ss : List ByteArray) : hitB frm (ss ++ [s]) = (hitB frm ss || decide (s = frm)) := by simp [hitB]

/-- Block tb holds a Template of Names: s its name, ss its arguments. -/
def Tmpl (w : World) (B tb : Nat) (s : ByteArray) (ss : List ByteArray) : Prop :=
  ∃ nv v vs, w.heap[tb]? = some (.cells #[nv, v] 37 (0, 0)) ∧ IsName w B s nv ∧ w.ownsRow B 31 1 v ss.length vs ∧ Names w B ss vs

theorem IsName.keep {w w' : World} {B B' : Nat} {s : ByteArray} {v : Value} (h : IsName w B s v) (hB : B' ≤ B) (hk : ∀ k, k < w.heap.size → w'.heap[k]? = w.heap[k]?) : IsName w' B' s v := by
  obtain ⟨b, e, hb, hc⟩ := h
  exact ⟨b, e, by omega, by rw [hk b (lt_of_block hc)]; exact hc⟩

theorem Names.keepAll {w w' : World} {B B' : Nat} {ss : List ByteArray} {vs : List Value} (h : Names w B ss vs) (hB : B' ≤ B) (hk : ∀ k, k < w.heap.size → w'.heap[k]? = w.heap[k]?) : Names w' B' ss vs :=
  ⟨h.1, fun i hi => (h.2 i hi).keep hB hk⟩

/-- What Copy hands back at a Template. -/
def Copied (frm to s : ByteArray) (ss : List ByteArray) (B : Nat) (w : World) (e : Ending) (w' : World) : Prop :=
  Below w.heap.size w w' ∧ ((hitB frm (s :: ss) = true ∧ ∃ tb, e = .returned (.iface 32 (.pointer (some ⟨tb, 0, none⟩))) ∧ Tmpl w' B tb (ren frm to s) (ss.map (ren frm to))) ∨
    (hitB frm (s :: ss) = false ∧ e = .returned .nilIface))

/-- The array that Copy fills, at the k-th round's head. -/
structure Fill (frm to : ByteArray) (ss : List ByteArray) (B S G n k : Nat) (wr : World) (xs : List Value) : Prop where
  own : wr.ownsRow S 31 1 (.slice (some ⟨G, 0, none⟩) n n) n xs
  done : Names wr B ((ss.take k).map (ren frm to)) (xs.take k)

theorem Fill.store {frm to : ByteArray} {ss : List ByteArray} {B S G n k : Nat} {wr w1 : World} {xs : List Value} (h : Fill frm to ss B S G n k wr xs) (hk : k < n) (hl : ss.length = n) (hb : Below wr.heap.size wr w1)
    {v : Value} (hv : IsName w1 B (ren frm to (ss.getD k ⟨#[]⟩)) v) : Fill frm to ss B S G n (k + 1) (w1.setCell ⟨G, k, none⟩ v) (xs.set k v) := by
  have hg : wr.grownBy w1 none := ⟨hb.os, hb.tape, hb.output, hb.size, fun k hk _ => hb.block k hk⟩
  have hown1 := h.own.kept hg (by simp [Value.ownBlock])
  have hnm := h.done.keepAll (B' := B) (Nat.le_refl _) hb.block
  have hs := hown1.stored k v
  have hx : xs.length = n := by have := h.own.1; simpa using this
  have hG : ∀ (b : Nat) (s : ByteArray), w1.heap[b]? = some (.cells #[.string s] 46 (0, 0)) → (w1.setCell ⟨G, k, none⟩ v).heap[b]? = some (.cells #[.string s] 46 (0, 0)) := fun b s hc =>
    name_kept hown1 hs.2 hc
  refine ⟨hs.1, ?_⟩
  have e1 : (xs.set k v).take (k + 1) = xs.take k ++ [v] := by
    rw [List.take_succ_eq_append_getElem (by simp; omega), List.take_set_of_le (Nat.le_refl _)]
    simp
  have e2 : (ss.take (k + 1)).map (ren frm to) = (ss.take k).map (ren frm to) ++ [ren frm to (ss.getD k ⟨#[]⟩)] := by
    rw [List.take_succ_eq_append_getElem (by omega), List.map_append]
    simp [List.getD, show k < ss.length by omega]
  rw [e1, e2]
  refine Names.snoc (hnm.keep fun b s _ hc => hG b s hc) ?_
  obtain ⟨b, e, hB, hc⟩ := hv
  exact ⟨b, e, hB, hG b _ hc⟩

theorem hit_take (frm : ByteArray) (ss : List ByteArray) (k : Nat) (hk : k < ss.length) : hitB frm (ss.take (k + 1)) = (hitB frm (ss.take k) || decide (ss.getD k ⟨#[]⟩ = frm)) := by
  rw [List.take_succ_eq_append_getElem hk, hit_snoc]
  simp [List.getD, hk]

/-- The loop's relation: k arguments are done; cb: has one of them, or the name (c0), been replaced? -/
structure Round (frm to : ByteArray) (ss : List ByteArray) (B S G n k : Nat) (c0 cb : Bool) (w wr : World) (xs : List Value) (nb : Nat) (nt : ByteArray) : Prop where
  fill : Fill frm to ss B S G n k wr xs
  ch : cb = (c0 || hitB frm (ss.take k))
  below : Below w.heap.size w wr
  name : wr.heap[nb]? = some (.cells #[.string nt] 46 (0, 0))
  arr : G < wr.heap.size

theorem Round.start {frm to : ByteArray} {ss : List ByteArray} {B S n nb : Nat} {c0 : Bool} {w w1 w2 : World} {nt : ByteArray} (hown : w2.ownsRow S 31 1 (.slice (some ⟨w1.heap.size, 0, none⟩) n n) n (madeCells #[Value.nilIface] n).toList)
    (hb : Below w.heap.size w w1) (hg : w1.grownBy w2 none) (hn : w1.heap[nb]? = some (.cells #[.string nt] 46 (0, 0))) : Round frm to ss B S w1.heap.size n 0 c0 c0 w w2 (madeCells #[Value.nilIface] n).toList nb nt :=
  ⟨⟨hown, by simpa using Names.nil _ _⟩, by simp [hitB], hb.grown hg hb.size (fun k hk => by simp at hk), by rw [hg.block nb (lt_of_block hn) (by simp)]; exact hn, by
    have := (hown.lt w1.heap.size rfl).2
    exact this⟩

theorem Round.next {frm to : ByteArray} {ss : List ByteArray} {B S G n k : Nat} {c0 cb : Bool} {w wr w1 : World} {xs : List Value} {nb : Nat} {nt : ByteArray} (h : Round frm to ss B S G n k c0 cb w wr xs nb nt)
    (hk : k < n) (hl : ss.length = n) (hS : w.heap.size ≤ S) (hb : Below wr.heap.size wr w1) {v : Value} (hv : IsName w1 B (ren frm to (ss.getD k ⟨#[]⟩)) v) :
    (∃ old, w1.cell? ⟨G, k, none⟩ = some old) ∧ w1.frozen? ⟨G, k, none⟩ = false ∧
      ∀ cb', cb' = (cb || decide (ss.getD k ⟨#[]⟩ = frm)) → Round frm to ss B S G n (k + 1) c0 cb' w (w1.setCell ⟨G, k, none⟩ v) (xs.set k v) nb nt := by
  have hg : wr.grownBy w1 none := ⟨hb.os, hb.tape, hb.output, hb.size, fun k hk _ => hb.block k hk⟩
  have hown1 := h.fill.own.kept hg (by simp [Value.ownBlock])
  have hx : xs.length = n := by have := h.fill.own.1; simpa using this
  have hG := (h.fill.own.lt G rfl).1
  refine ⟨⟨xs[k]'(by omega), by rw [hown1.cellAt k (by omega)]; simp⟩, hown1.frozenAt k, fun cb' hcb => ⟨h.fill.store hk hl hb hv, ?_, ?_, ?_, ?_⟩⟩
  · rw [hcb, h.ch, hit_take frm ss k (by omega), Bool.or_assoc]
  · exact (h.below.trans (hb.mono h.below.size)).setCell (by show w.heap.size ≤ G; omega) v
  · exact name_kept hown1 (hown1.stored k v).2 (by rw [hb.block nb (lt_of_block h.name)]; exact h.name)
  · have := h.arr
    have := hb.size
    show G < (w1.setCell _ _).heap.size
    simp [World.setCell]
    omega

theorem Round.done {frm to s : ByteArray} {ss : List ByteArray} {B S G n : Nat} {c0 cb : Bool} {w wr w1 : World} {xs : List Value} {nb : Nat} (h : Round frm to ss B S G n n c0 cb w wr xs nb (ren frm to s)) (hl : ss.length = n)
    (hBS : B ≤ S) (hnb : B ≤ nb) (hb : Below wr.heap.size wr w1) (O : Obj) (hO : O = .cells #[.iface 44 (.pointer (some ⟨nb, 0, none⟩)), .slice (some ⟨G, 0, none⟩) n n] 37) (hw1 : w1.heap[wr.heap.size]? = some O) :
    Tmpl w1 B wr.heap.size (ren frm to s) (ss.map (ren frm to)) ∧ Below w.heap.size w w1 := by
  subst hO
  have hg : wr.grownBy w1 none := ⟨hb.os, hb.tape, hb.output, hb.size, fun k hk _ => hb.block k hk⟩
  have hx : xs.length = n := by have := h.fill.own.1; simpa using this
  refine ⟨⟨_, _, xs, hw1, ⟨nb, rfl, hnb, by rw [hb.block nb (lt_of_block h.name)]; exact h.name⟩, ?_, ?_⟩, h.below.trans (hb.mono h.below.size)⟩
  · rw [List.length_map, hl]
    obtain ⟨h1, h2⟩ := h.fill.own.kept hg (by simp [Value.ownBlock])
    refine ⟨h1, ?_⟩
    rcases h2 with h2 | ⟨g, c, cur, e, hbg, r⟩
    · exact .inl h2
    · exact .inr ⟨g, c, cur, e, by omega, r⟩
  · have := h.fill.done.keepAll (B' := B) (Nat.le_refl _) hb.block
    rw [List.take_of_length_le (by omega), List.take_of_length_le (by omega)] at this
    exact this

set_option maxHeartbeats 2000000 in
theorem copy_tmpl_hit (tb b1 b2 B n : Nat) (s frm to : ByteArray) (ss : List ByteArray) (w : World) (hc : Caps w b1 b2 frm to) (hB : B ≤ w.heap.size) (ht : Tmpl w B tb s ss) (hl : ss.length = n) (hn : n ≤ 1000) (hq : s = frm) :
    Calls Try.prog 10 #[.pointer (some ⟨tb, 0, none⟩), .func (.func 14) #[] #[.pointer (some ⟨b1, 0, none⟩), .pointer (some ⟨b2, 0, none⟩)], .func (.func 12) #[] #[]] w (Copied frm to s ss B w) := by
  obtain ⟨nv, v, vs, htb, hnv, hown, hnm⟩ := ht
  rw [hl] at hown
  have h0 : w.cell? ⟨tb, 0, none⟩ = some nv := by simp [World.cell?, htb]
  have h1 : w.cell? ⟨tb, 1, none⟩ = some v := by simp [World.cell?, htb]
  have htl := lt_of_block htb
  obtain ⟨nb, rfl, hnb, hnc⟩ := id hnv
  have t1 := mCopyN
  have HNV := Lib.hid hnv
  have HL := Lib.hid hl
  have HTB := Lib.hid htb
  have HQ := Lib.hid hq
  obtain ⟨a, cap, rfl⟩ : ∃ a cap, v = .slice a n cap := by
    rcases hown.2 with ⟨e, e'⟩ | ⟨g, cap, cur, e, _⟩
    · exact ⟨none, 0, by rw [e, e']⟩
    · exact ⟨_, _, e⟩
  clear hnv hl htb hq
  go_enter Try.func10, Try.ntmps10
  go_wp2_with fail
  refine (skip_any _ w).mono ?_
  rintro e w1 ⟨rfl, rfl⟩
  go_wp2_with fail
  refine (copy_name nb b1 b2 B s frm to w hc HNV.out).mono ?_
  rintro e w1 ⟨hb, hr⟩
  have h1' : w1.cell? ⟨tb, 1, none⟩ = some (.slice a n cap) := by rw [hb.cell (p := ⟨tb, 1, none⟩) htl]; exact h1
  have h0' : w1.cell? ⟨tb, 0, none⟩ = some (.iface 44 (.pointer (some ⟨nb, 0, none⟩))) := by rw [hb.cell (p := ⟨tb, 0, none⟩) htl]; exact h0
  have hsz := hb.size
  obtain ⟨i0, hi, hz0, hz1, hz2⟩ := info_parts Try.infoAst
  clear h1 h0'
  obtain ⟨v, rfl, bn, rfl, hbn, hcn'⟩ : ∃ v, e = .returned v ∧ IsName w1 w.heap.size to v := by
    rcases hr with ⟨_, h⟩ | ⟨h, _⟩
    · exact h
    · exact absurd HQ.out h
  have hcn : w1.heap[bn]? = some (.cells #[.string (ren frm to s)] 46 (0, 0)) := by
    rw [show ren frm to s = to from if_pos HQ.out]; exact hcn'
  clear hcn' h0 hnc
  clear hr
  go_wp2_with (at_make; refine wpList_make_full _ rfl _ _ 34 rfl w.heap.size 31 i0 .nilIface 1 Try.underlying34 hi hz0 hz1 .i64 .i64 n n n rfl rfl rfl rfl (by rw [hz2]; omega) ?c3 hsz ?_)
  case c3 => unfold maxLen; omega
  intro w2 hown2 hg2
  have h1'' : w2.cell? ⟨tb, 1, none⟩ = some (.slice a n cap) := hg2.cell h1' (by simp)
  have hst : Round frm to ss B w.heap.size w1.heap.size n 0 true true w w2 _ bn (ren frm to s) := Round.start hown2 hb hg2 hcn
  generalize w1.heap.size = G at *
  clear hown2 hg2 h1'
  go_wp2_with fail
  go_loopw [8, 38] (fun c i wr => ∃ k : Nat, k ≤ n ∧ i = .int .i64 k ∧ ∃ cb xs, c = .bool cb ∧ Round frm to ss B w.heap.size G n k true cb w wr xs bn (ren frm to s)) (fun _ i _ => n - (intOf i).toNat)
  case atStart => exact ⟨0, Nat.zero_le _, rfl, _, _, rfl, hst⟩
  case round =>
    obtain ⟨k, hk, rfl, cb, xs, rfl, hrd⟩ := hrel
    by_cases hlt : k < n
    · obtain ⟨g, rfl⟩ : ∃ g, a = some ⟨g, 0, none⟩ := by
        rcases hown.2 with ⟨_, e⟩ | ⟨g, _, _, e, _⟩
        · omega
        · simp at e; exact ⟨g, e.1⟩
      have hgl := (hown.lt g rfl).2
      obtain ⟨b, hv, hbb, hbc⟩ := hnm.2 k (by rw [HL.out]; exact hlt)
      have hvl : vs.length = n := by rw [hnm.1, HL.out]
      have hel : wr.cell? ⟨g, k, none⟩ = some (.iface 44 (.pointer (some ⟨b, 0, none⟩))) := by
        rw [hrd.below.cell (p := ⟨g, k, none⟩) hgl, hown.cellAt k (by omega), ← hv]
        simp [List.getD, hvl, hlt]
      have hnk : IsName wr B (ss.getD k ⟨#[]⟩) (.iface 44 (.pointer (some ⟨b, 0, none⟩))) := IsName.keep (w := w) ⟨b, rfl, hbb, hbc⟩ (Nat.le_refl _) hrd.below.block
      have HRD := Lib.hid hrd
      have HNK := Lib.hid hnk
      have HCP := Lib.hid (hc.keep hrd.below)
      clear hrd hnk hv hbc hvl
      go_wp2_with fail
      refine (copy_name b b1 b2 B _ frm to wr HCP.out HNK.out).mono ?_
      rintro e w3 ⟨hb3, hr3⟩
      rcases hr3 with ⟨hq3, v3, rfl, bn3, rfl, hbn3, hcn3⟩ | ⟨hq3, rfl⟩
      · obtain ⟨⟨old, ho⟩, hfz, hnx⟩ := HRD.out.next (v := .iface 44 (.pointer (some ⟨bn3, 0, none⟩))) hlt HL.out (Nat.le_refl _) hb3 (by
          have := HRD.out.below.size
          rw [show ren frm to (ss.getD k ⟨#[]⟩) = to from if_pos hq3]
          exact ⟨bn3, rfl, by omega, hcn3⟩)
        have hnx' := hnx true (by rw [decide_eq_true hq3, Bool.or_true])
        have HNX := Lib.hid hnx'
        clear hnx hnx' hq3 hcn3
        go_wp2_with fail
        go_roundw
        case rel => exact ⟨k + 1, by omega, by go_num, true, _, rfl, HNX.out⟩
        case measure => simp [intOf]; omega
      · obtain ⟨⟨old, ho⟩, hfz, hnx⟩ := HRD.out.next (v := .iface 44 (.pointer (some ⟨b, 0, none⟩))) hlt HL.out (Nat.le_refl _) hb3 (by
          rw [show ren frm to (ss.getD k ⟨#[]⟩) = ss.getD k ⟨#[]⟩ from if_neg hq3]
          exact HNK.out.keep (Nat.le_refl _) hb3.block)
        have hnx' := hnx cb (by rw [decide_eq_false hq3, Bool.or_false])
        have HNX := Lib.hid hnx'
        clear hnx hnx' hq3
        go_wp2_with fail
        go_roundw
        case rel => exact ⟨k + 1, by omega, by go_num, cb, _, rfl, HNX.out⟩
        case measure => simp [intOf]; omega
    · have ek : k = n := by omega
      subst ek
      have hch := hrd.ch
      rw [List.take_of_length_le (by rw [HL.out]; exact Nat.le_refl _)] at hch
      have HCH := Lib.hid hch
      have HRD := Lib.hid hrd
      clear hrd hch
      cases cb with
      | false =>
        have := HCH.out
        simp at this
      | true =>
        go_wp2_with fail
        refine (ren_tmpl _ b1 b2 _).mono ?_
        rintro e w4 ⟨rfl, hb4⟩
        go_wp2_with fail
        go_ret
        have hdn := HRD.out.done (w1 := w4) HL.out hB (by omega) (((Below.refl _ _).alloc (Nat.le_refl _) _).trans (hb4.mono (by simp))) _ rfl (by rw [hb4.block _ (by simp), heap_alloc_new])
        exact ⟨hdn.2, .inl ⟨by have h := HCH.out; simp [hitB, HQ.out], _, rfl, hdn.1⟩⟩


set_option maxHeartbeats 2000000 in
theorem copy_tmpl_miss (tb b1 b2 B n : Nat) (s frm to : ByteArray) (ss : List ByteArray) (w : World) (hc : Caps w b1 b2 frm to) (hB : B ≤ w.heap.size) (ht : Tmpl w B tb s ss) (hl : ss.length = n) (hn : n ≤ 1000) (hq : ¬ s = frm) :
    Calls Try.prog 10 #[.pointer (some ⟨tb, 0, none⟩), .func (.func 14) #[] #[.pointer (some ⟨b1, 0, none⟩), .pointer (some ⟨b2, 0, none⟩)], .func (.func 12) #[] #[]] w (Copied frm to s ss B w) := by
  obtain ⟨nv, v, vs, htb, hnv, hown, hnm⟩ := ht
  rw [hl] at hown
  have h0 : w.cell? ⟨tb, 0, none⟩ = some nv := by simp [World.cell?, htb]
  have h1 : w.cell? ⟨tb, 1, none⟩ = some v := by simp [World.cell?, htb]
  have htl := lt_of_block htb
  obtain ⟨nb, rfl, hnb, hnc⟩ := id hnv
  have t1 := mCopyN
  have HNV := Lib.hid hnv
  have HL := Lib.hid hl
  have HTB := Lib.hid htb
  have HQ := Lib.hid hq
  obtain ⟨a, cap, rfl⟩ : ∃ a cap, v = .slice a n cap := by
    rcases hown.2 with ⟨e, e'⟩ | ⟨g, cap, cur, e, _⟩
    · exact ⟨none, 0, by rw [e, e']⟩
    · exact ⟨_, _, e⟩
  clear hnv hl htb hq
  go_enter Try.func10, Try.ntmps10
  go_wp2_with fail
  refine (skip_any _ w).mono ?_
  rintro e w1 ⟨rfl, rfl⟩
  go_wp2_with fail
  refine (copy_name nb b1 b2 B s frm to w hc HNV.out).mono ?_
  rintro e w1 ⟨hb, hr⟩
  have h1' : w1.cell? ⟨tb, 1, none⟩ = some (.slice a n cap) := by rw [hb.cell (p := ⟨tb, 1, none⟩) htl]; exact h1
  have h0' : w1.cell? ⟨tb, 0, none⟩ = some (.iface 44 (.pointer (some ⟨nb, 0, none⟩))) := by rw [hb.cell (p := ⟨tb, 0, none⟩) htl]; exact h0
  have hsz := hb.size
  obtain ⟨i0, hi, hz0, hz1, hz2⟩ := info_parts Try.infoAst
  clear h1 h0'
  obtain rfl : e = .returned .nilIface := by
    rcases hr with ⟨h, _⟩ | ⟨_, h⟩
    · exact absurd h HQ.out
    · exact h
  have hcn : w1.heap[nb]? = some (.cells #[.string (ren frm to s)] 46 (0, 0)) := by
    rw [show ren frm to s = s from if_neg HQ.out, hb.block nb (lt_of_block hnc)]; exact hnc
  clear hnc
  clear hr
  go_wp2_with (at_make; refine wpList_make_full _ rfl _ _ 34 rfl w.heap.size 31 i0 .nilIface 1 Try.underlying34 hi hz0 hz1 .i64 .i64 n n n rfl rfl rfl rfl (by rw [hz2]; omega) ?c3 hsz ?_)
  case c3 => unfold maxLen; omega
  intro w2 hown2 hg2
  have h1'' : w2.cell? ⟨tb, 1, none⟩ = some (.slice a n cap) := hg2.cell h1' (by simp)
  have hst : Round frm to ss B w.heap.size w1.heap.size n 0 false false w w2 _ nb (ren frm to s) := Round.start hown2 hb hg2 hcn
  generalize w1.heap.size = G at *
  clear hown2 hg2 h1'
  go_wp2_with fail
  go_loopw [8, 38] (fun c i wr => ∃ k : Nat, k ≤ n ∧ i = .int .i64 k ∧ ∃ cb xs, c = .bool cb ∧ Round frm to ss B w.heap.size G n k false cb w wr xs nb (ren frm to s)) (fun _ i _ => n - (intOf i).toNat)
  case atStart => exact ⟨0, Nat.zero_le _, rfl, _, _, rfl, hst⟩
  case round =>
    obtain ⟨k, hk, rfl, cb, xs, rfl, hrd⟩ := hrel
    by_cases hlt : k < n
    · obtain ⟨g, rfl⟩ : ∃ g, a = some ⟨g, 0, none⟩ := by
        rcases hown.2 with ⟨_, e⟩ | ⟨g, _, _, e, _⟩
        · omega
        · simp at e; exact ⟨g, e.1⟩
      have hgl := (hown.lt g rfl).2
      obtain ⟨b, hv, hbb, hbc⟩ := hnm.2 k (by rw [HL.out]; exact hlt)
      have hvl : vs.length = n := by rw [hnm.1, HL.out]
      have hel : wr.cell? ⟨g, k, none⟩ = some (.iface 44 (.pointer (some ⟨b, 0, none⟩))) := by
        rw [hrd.below.cell (p := ⟨g, k, none⟩) hgl, hown.cellAt k (by omega), ← hv]
        simp [List.getD, hvl, hlt]
      have hnk : IsName wr B (ss.getD k ⟨#[]⟩) (.iface 44 (.pointer (some ⟨b, 0, none⟩))) := IsName.keep (w := w) ⟨b, rfl, hbb, hbc⟩ (Nat.le_refl _) hrd.below.block
      have HRD := Lib.hid hrd
      have HNK := Lib.hid hnk
      have HCP := Lib.hid (hc.keep hrd.below)
      clear hrd hnk hv hbc hvl
      go_wp2_with fail
      refine (copy_name b b1 b2 B _ frm to wr HCP.out HNK.out).mono ?_
      rintro e w3 ⟨hb3, hr3⟩
      rcases hr3 with ⟨hq3, v3, rfl, bn3, rfl, hbn3, hcn3⟩ | ⟨hq3, rfl⟩
      · obtain ⟨⟨old, ho⟩, hfz, hnx⟩ := HRD.out.next (v := .iface 44 (.pointer (some ⟨bn3, 0, none⟩))) hlt HL.out (Nat.le_refl _) hb3 (by
          have := HRD.out.below.size
          rw [show ren frm to (ss.getD k ⟨#[]⟩) = to from if_pos hq3]
          exact ⟨bn3, rfl, by omega, hcn3⟩)
        have hnx' := hnx true (by rw [decide_eq_true hq3, Bool.or_true])
        have HNX := Lib.hid hnx'
        clear hnx hnx' hq3 hcn3
        go_wp2_with fail
        go_roundw
        case rel => exact ⟨k + 1, by omega, by go_num, true, _, rfl, HNX.out⟩
        case measure => simp [intOf]; omega
      · obtain ⟨⟨old, ho⟩, hfz, hnx⟩ := HRD.out.next (v := .iface 44 (.pointer (some ⟨b, 0, none⟩))) hlt HL.out (Nat.le_refl _) hb3 (by
          rw [show ren frm to (ss.getD k ⟨#[]⟩) = ss.getD k ⟨#[]⟩ from if_neg hq3]
          exact HNK.out.keep (Nat.le_refl _) hb3.block)
        have hnx' := hnx cb (by rw [decide_eq_false hq3, Bool.or_false])
        have HNX := Lib.hid hnx'
        clear hnx hnx' hq3
        go_wp2_with fail
        go_roundw
        case rel => exact ⟨k + 1, by omega, by go_num, cb, _, rfl, HNX.out⟩
        case measure => simp [intOf]; omega
    · have ek : k = n := by omega
      subst ek
      have hch := hrd.ch
      rw [List.take_of_length_le (by rw [HL.out]; exact Nat.le_refl _)] at hch
      have HCH := Lib.hid hch
      have HRD := Lib.hid hrd
      clear hrd hch
      cases cb with
      | false =>
        go_wp2_with fail
        refine (ren_tmpl _ b1 b2 wr).mono ?_
        rintro e w4 ⟨rfl, hb4⟩
        go_wp2_with fail
        go_ret
        exact ⟨HRD.out.below.trans (hb4.mono HRD.out.below.size), .inr ⟨by have h := HCH.out; simp at h; simpa [hitB, HQ.out] using h, rfl⟩⟩
      | true =>
        have h0'' : wr.cell? ⟨tb, 0, none⟩ = some (.iface 44 (.pointer (some ⟨nb, 0, none⟩))) := by rw [HRD.out.below.cell (p := ⟨tb, 0, none⟩) htl]; exact h0
        go_wp2_with fail
        refine (ren_tmpl _ b1 b2 _).mono ?_
        rintro e w4 ⟨rfl, hb4⟩
        go_wp2_with fail
        go_ret
        have hdn := HRD.out.done (w1 := w4) HL.out hB hnb (((Below.refl _ _).alloc (Nat.le_refl _) _).trans (hb4.mono (by simp))) _ rfl (by rw [hb4.block _ (by simp), heap_alloc_new])
        exact ⟨hdn.2, .inl ⟨by have h := HCH.out; simp at h; simpa [hitB, HQ.out] using h, _, rfl, hdn.1⟩⟩


theorem copy_tmpl (tb b1 b2 B n : Nat) (s frm to : ByteArray) (ss : List ByteArray) (w : World) (hc : Caps w b1 b2 frm to) (hB : B ≤ w.heap.size) (ht : Tmpl w B tb s ss) (hl : ss.length = n) (hn : n ≤ 1000) :
    Calls Try.prog 10 #[.pointer (some ⟨tb, 0, none⟩), .func (.func 14) #[] #[.pointer (some ⟨b1, 0, none⟩), .pointer (some ⟨b2, 0, none⟩)], .func (.func 12) #[] #[]] w (Copied frm to s ss B w) := by
  by_cases hq : s = frm
  · exact copy_tmpl_hit tb b1 b2 B n s frm to ss w hc hB ht hl hn hq
  · exact copy_tmpl_miss tb b1 b2 B n s frm to ss w hc hB ht hl hn hq

end Go.Proofs.Ytfpojbcmhnaojaa

/-
  smSame at two lists that read alike; CopyTemplate.
-/
import Derived.Test.YtfpojbcmhnaojaaCV
namespace Go.Proofs.Ytfpojbcmhnaojaa
open Go.RowKit

set_option maxHeartbeats 1000000 in
theorem same_yes (a a' : Option Addr) (n cap cap' : Nat) (ss : List ByteArray) (w : World) (h : Strs w a n ss) (h' : Strs w a' n ss) (hn : n ≤ 2000) :
    Calls Try.prog 7 #[.slice a n cap, .slice a' n cap'] w fun e w' => e = .returned (.bool true) ∧ Below w.heap.size w w' := by
  have HS := Lib.hid h
  have HS' := Lib.hid h'
  clear h h'
  go_enter Try.func7, Try.ntmps7
  go_wp2_with fail
  go_loopw [13] (fun i wr => ∃ k : Nat, k ≤ n ∧ i = .int .i64 k ∧ Below w.heap.size w wr) (fun i _ => n - (intOf i).toNat)
  case atStart => exact ⟨0, Nat.zero_le _, rfl, Below.refl _ _⟩
  case round =>
    obtain ⟨k, hk, rfl, hbel⟩ := hrel
    by_cases hlt : k < n
    · obtain ⟨bl, off, rfl, hbl, hc⟩ := HS.out.cells (by omega)
      obtain ⟨bl', off', rfl, hbl', hc'⟩ := HS'.out.cells (by omega)
      have hc1 : wr.cell? ⟨bl, off + k, none⟩ = some (.string (ss.getD k ⟨#[]⟩)) := by rw [hbel.cell (p := ⟨bl, off + k, none⟩) hbl]; exact hc k hlt
      have hc2 : wr.cell? ⟨bl', off' + k, none⟩ = some (.string (ss.getD k ⟨#[]⟩)) := by rw [hbel.cell (p := ⟨bl', off' + k, none⟩) hbl']; exact hc' k hlt
      clear hc hc'
      generalize ss.getD k ⟨#[]⟩ = s at *
      go_wp2_with fail
      go_quiet (fail)
      go_wp2_with fail
      go_roundw
      case rel => exact ⟨k + 1, by omega, by go_num, below_drewN hbel _⟩
      case measure => simp [intOf]; omega
    · go_wp2_with fail
      go_ret
      exact ⟨rfl, hbel⟩

theorem Tmpl.keep {w w' : World} {B tb : Nat} {s : ByteArray} {ss : List ByteArray} (h : Tmpl w B tb s ss) (hb : Below w.heap.size w w') : Tmpl w' B tb s ss := by
  obtain ⟨nv, v, vs, h1, h2, h3, h4⟩ := h
  have hg : w.grownBy w' none := ⟨hb.os, hb.tape, hb.output, hb.size, fun k hk _ => hb.block k hk⟩
  exact ⟨nv, v, vs, by rw [hb.block tb (lt_of_block h1)]; exact h1, h2.keep (Nat.le_refl _) hb.block, h3.kept hg (by cases hv : v.ownBlock <;> simp), h4.keepAll (Nat.le_refl _) hb.block⟩

/-- What CopyTemplate hands back. -/
def CopyMade (frm to s : ByteArray) (ss : List ByteArray) (w : World) (e : Ending) (w' : World) : Prop :=
  Below w.heap.size w w' ∧ ∃ s' v ok, e = .returned (.tuple #[.string s', v, .bool ok]) ∧
    ((hitB frm (s :: ss) = true ∧ ok = true ∧ s' = ren frm to s ∧ w'.ownsRow w.heap.size 9 1 v ss.length (renList frm to ss)) ∨ (hitB frm (s :: ss) = false ∧ ok = false))

theorem taTT (p : Value) (w : World) : (Instr.typeAssert (.iface 32 p) 31 32 true).run Try.prog w = .ok (.tuple #[p, .bool true]) w := by kernel_rfl
theorem taNT (w : World) : (Instr.typeAssert .nilIface 31 32 true).run Try.prog w = .ok (.tuple #[.pointer none, .bool false]) w := by kernel_rfl

set_option maxHeartbeats 2000000 in
theorem copy_any (a : Option Addr) (n cap : Nat) (s frm to : ByteArray) (ss : List ByteArray) (w : World) (h : Strs w a n ss) (hn : n ≤ 1000) :
    Calls Try.prog 6 #[.string s, .slice a n cap, .string frm, .string to] w (CopyMade frm to s ss w) := by
  have HS := Lib.hid h
  clear h
  have t1 := taTT
  have t2 := taNT
  go_enter Try.func6, Try.ntmps6
  go_wp2_with fail
  refine (name_any s w).mono ?_
  rintro e w1 ⟨rfl, rfl⟩
  go_wp2_with fail
  have hb0 : Below w.heap.size w (w.alloc (Obj.cells #[.string s] 46)) := (Below.refl _ _).alloc (Nat.le_refl _) _
  refine (names_any a n cap ss _ (HS.out.keep hb0) hn).mono ?_
  rintro e w2 ⟨v, vs, rfl, hown, hnm, hb2⟩
  obtain ⟨a2, cap2, rfl⟩ : ∃ a2 cap2, v = .slice a2 ss.length cap2 := by
    rcases hown.2 with ⟨e, e'⟩ | ⟨g, cap, cur, e, _⟩
    · exact ⟨none, 0, by rw [e, e']⟩
    · exact ⟨_, _, e⟩
  have hbw2 : Below w.heap.size w w2 := hb0.trans (hb2.mono (by simp))
  have hname : w2.heap[w.heap.size]? = some (.cells #[.string s] 46 (0, 0)) := by rw [hb2.block _ (by simp), heap_alloc_new]
  have hlt2 := lt_of_block hname
  have hT : Tmpl (w2.alloc (.cells #[.iface 44 (.pointer (some ⟨w.heap.size, 0, none⟩)), .slice a2 ss.length cap2] 37)) w.heap.size w2.heap.size s ss := by
    have hka : ∀ k, k < w2.heap.size → (w2.alloc (Obj.cells #[.iface 44 (.pointer (some ⟨w.heap.size, 0, none⟩)), .slice a2 ss.length cap2] 37)).heap[k]? = w2.heap[k]? := fun k hk => Below.heap_alloc _ _ _ hk
    refine ⟨_, _, vs, heap_alloc_new _ _, IsName.keep (w := w2) (B := w.heap.size) ⟨_, rfl, Nat.le_refl _, hname⟩ (Nat.le_refl _) hka, ?_, hnm.keepAll (by simp) hka⟩
    obtain ⟨h1, h2⟩ := hown.alloc (.cells #[.iface 44 (.pointer (some ⟨w.heap.size, 0, none⟩)), .slice a2 ss.length cap2] 37)
    refine ⟨h1, ?_⟩
    rcases h2 with h2 | ⟨g, c, cur, e, hbg, r⟩
    · exact .inl h2
    · exact .inr ⟨g, c, cur, e, by simp at hbg; omega, r⟩
  have hbT : Below w.heap.size w (w2.alloc (.cells #[.iface 44 (.pointer (some ⟨w.heap.size, 0, none⟩)), .slice a2 ss.length cap2] 37)) := hbw2.alloc (by omega) _
  have HT := Lib.hid hT
  have HBT := Lib.hid hbT
  clear hT hbT hnm hown hb0 hb2 hname hbw2
  go_wp2_with fail
  refine (renaming_any frm to _).mono ?_
  rintro e w3 ⟨rfl, rfl⟩
  generalize hO : Obj.cells #[.iface 44 (.pointer (some ⟨w.heap.size, 0, none⟩)), .slice a2 ss.length cap2] 37 = O at *
  go_wp2_with fail
  have hcap : Caps (((w2.alloc O).alloc (Obj.cells #[.string frm] 9)).alloc (Obj.cells #[.string to] 9)) (w2.heap.size + 1) (w2.heap.size + 1 + 1) frm to := by
    refine ⟨?_, ?_⟩
    · refine cell_of_one (t := 9) ?_
      rw [Below.heap_alloc _ _ _ (by simp)]
      have := heap_alloc_new (w2.alloc O) (Obj.cells #[.string frm] 9)
      simpa using this
    · refine cell_of_one (t := 9) ?_
      have := heap_alloc_new ((w2.alloc O).alloc (Obj.cells #[.string frm] 9)) (Obj.cells #[.string to] 9)
      simpa using this
  have hbw : Below (w2.alloc O).heap.size (w2.alloc O) (((w2.alloc O).alloc (Obj.cells #[.string frm] 9)).alloc (Obj.cells #[.string to] 9)) := ((Below.refl _ _).alloc (Nat.le_refl _) _).alloc (by simp) _
  have hT3 := HT.out.keep hbw
  have hbw3 := HBT.out.trans (hbw.mono HBT.out.size)
  generalize (((w2.alloc O).alloc (Obj.cells #[.string frm] 9)).alloc (Obj.cells #[.string to] 9)) = w3 at *
  refine (copy_tmpl _ _ _ _ _ s frm to ss _ hcap hbw3.size hT3 rfl (by rw [HS.out.len]; exact hn)).mono ?_
  rintro e w4 ⟨hb4, hr⟩
  have hbw4 := hbw3.trans (hb4.mono hbw3.size)
  clear hO hcap hbw hT3 hb4 HT HBT hbw3
  rcases hr with ⟨hh, tb, rfl, hT4⟩ | ⟨hh, rfl⟩
  · obtain ⟨nv4, v4, vs4, htb4, hnv4, hown4, hnm4⟩ := hT4
    obtain ⟨nb4, rfl, hnb4, hnc4⟩ := hnv4
    have hlen4 : (ss.map (ren frm to)).length = n := by simp [HS.out.len]
    rw [hlen4] at hown4
    obtain ⟨a4, cap4, rfl⟩ : ∃ a4 cap4, v4 = .slice a4 n cap4 := by
      rcases hown4.2 with ⟨e, e'⟩ | ⟨g, cap, cur, e, _⟩
      · exact ⟨none, 0, by rw [e, e']⟩
      · exact ⟨_, _, e⟩
    have c0 : w4.cell? ⟨tb, 0, none⟩ = some (.iface 44 (.pointer (some ⟨nb4, 0, none⟩))) := by simp [World.cell?, htb4]
    have c1 : w4.cell? ⟨tb, 1, none⟩ = some (.slice a4 n cap4) := by simp [World.cell?, htb4]
    have htl := lt_of_block htb4
    have HH := Lib.hid hh
    have HL4 := Lib.hid hlen4
    have HT4 := Lib.hid htb4
    obtain ⟨i0, hi, hz0, hz1, hz2⟩ := info_parts Try.infoStr
    clear hh hlen4 htb4
    go_wp2_with fail
    go_loopw [14, 39] (fun v i wr => ∃ k : Nat, k ≤ n ∧ i = .int .i64 k ∧ wr.ownsRow w4.heap.size 9 1 v k (renList frm to (ss.take k)) ∧ Below w4.heap.size w4 wr) (fun _ i _ => n - (intOf i).toNat)
    case atStart => exact ⟨0, Nat.zero_le _, rfl, World.ownsRow_nil _ _ _ _, Below.refl _ _⟩
    case round =>
      obtain ⟨k, hk, rfl, hown, hbel⟩ := hrel
      by_cases hlt : k < n
      · obtain ⟨g, rfl⟩ : ∃ g, a4 = some ⟨g, 0, none⟩ := by
          rcases hown4.2 with ⟨_, e⟩ | ⟨g, _, _, e, _⟩
          · omega
          · simp at e; exact ⟨g, e.1⟩
        have hgl := (hown4.lt g rfl).2
        have hl : k < ss.length := by rw [HS.out.len]; exact hlt
        obtain ⟨b, hv, hbb, hbc⟩ := hnm4.2 k (by rw [HL4.out]; exact hlt)
        have hvl : vs4.length = n := by rw [hnm4.1, HL4.out]
        have hel : wr.cell? ⟨g, k, none⟩ = some (.iface 44 (.pointer (some ⟨b, 0, none⟩))) := by
          rw [hbel.cell (p := ⟨g, k, none⟩) hgl, hown4.cellAt k (by omega), ← hv]
          simp [List.getD, hvl, hlt]
        have hnk : IsName wr w.heap.size ((ss.map (ren frm to)).getD k ⟨#[]⟩) (.iface 44 (.pointer (some ⟨b, 0, none⟩))) := IsName.keep (w := w4) ⟨b, rfl, hbb, hbc⟩ (Nat.le_refl _) hbel.block
        have ht : renList frm to (ss.take (k + 1)) = renList frm to (ss.take k) ++ [.string ((ss.map (ren frm to)).getD k ⟨#[]⟩)] := by
          unfold renList
          rw [List.take_succ_eq_append_getElem hl, List.map_append, List.map_append, List.map_singleton, List.map_singleton]
          congr 1
          simp [List.getD, hl]
        have HTK := Lib.hid ht
        have hsz := hbel.size
        clear ht hbc hv hvl hl
        generalize (ss.map (ren frm to)).getD k ⟨#[]⟩ = sk at *
        have HNK := Lib.hid hnk
        clear hnk
        go_wp2_with fail
        refine (text_name b _ sk wr HNK.out).mono ?_
        rintro e w5 ⟨rfl, rfl⟩
        go_wp2_with (at_builtin; refine wpList_append_own _ rfl _ _ 22 rfl w4.heap.size 9 i0 (.string ⟨#[]⟩) 1 16 Try.underlying22 hi hz0 hz1 hz2 rfl (by decide) _ _ _ rfl (hown.alloc _) ⟨wr.heap.size, 0, none⟩ 1 1 [.string sk] rfl rfl (cell_one_new _ _ _) (by simp [Value.oneCell']) ?c3 (by omega) (by simp; omega) ?_)
        case c3 => unfold maxLen; omega
        intro v1 w1 hown1 hg1 _
        have hb1 := (hbel.alloc hsz _).grown hg1 (by simp; omega) (fun j hj => (hown.lt j hj).1)
        have HO1 := Lib.hid hown1
        clear hown hown1 hg1 hbel hel
        go_wp2_with fail
        go_roundw
        case rel => exact ⟨k + 1, by omega, by go_num, by rw [HTK.out]; exact HO1.out, hb1⟩
        case measure => simp [intOf]; omega
      · have e : ss.take k = ss := List.take_of_length_le (by rw [HS.out.len]; omega)
        have ek : k = ss.length := by rw [HS.out.len]; omega
        rw [e, ek] at hown
        clear e ek
        have c0' : wr.cell? ⟨tb, 0, none⟩ = some (.iface 44 (.pointer (some ⟨nb4, 0, none⟩))) := by rw [hbel.cell (p := ⟨tb, 0, none⟩) htl]; exact c0
        have hnk := IsName.keep (w := w4) (w' := wr) (B := w.heap.size) ⟨nb4, rfl, hnb4, hnc4⟩ (Nat.le_refl _) hbel.block
        have HNK := Lib.hid hnk
        clear hnk
        go_wp2_with fail
        refine (text_name nb4 _ _ wr HNK.out).mono ?_
        rintro e w5 ⟨rfl, rfl⟩
        go_wp2_with fail
        go_ret3
        refine ⟨hbw4.trans (hbel.mono hbw4.size), _, _, true, rfl, .inl ⟨HH.out, rfl, rfl, ?_⟩⟩
        obtain ⟨h1, h2⟩ := hown
        refine ⟨h1, ?_⟩
        rcases h2 with h2 | ⟨g, c, cur, e, hbg, r⟩
        · exact .inl h2
        · exact .inr ⟨g, c, cur, e, by have := hbw4.size; omega, r⟩
  · have HH := Lib.hid hh
    clear hh
    go_wp2_with fail
    go_ret3
    exact ⟨hbw4, _, _, false, rfl, .inr ⟨HH.out, rfl⟩⟩

end Go.Proofs.Ytfpojbcmhnaojaa

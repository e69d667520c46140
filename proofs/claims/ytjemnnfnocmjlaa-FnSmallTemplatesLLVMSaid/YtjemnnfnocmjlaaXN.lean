/-
  The templates that FnSmallTemplatesLLVM makes, and their text.
-/
import Derived.Test.YtjemnnfnocmjlaaXM
namespace Go.Proofs.Ytjemnnfnocmjlaa
open Go.RowKit

/-- The block that an interface value points to. -/
def blk : Value → Nat
  | .iface _ (.pointer (some a)) => a.block
  | _ => 0

theorem Names.cons {w : World} {B : Nat} {ss : List ByteArray} {vs : List Value} {s : ByteArray} {v : Value} (h : Names w B ss vs) (hv : IsName w B s v) : Names w B (s :: ss) (v :: vs) := by
  refine ⟨by simp [h.1], fun i hi => ?_⟩
  cases i with
  | zero => simpa using hv
  | succ i =>
    simp at hi
    simpa using h.2 i hi

theorem Names.low {w : World} {B B' : Nat} {ss : List ByteArray} {vs : List Value} (h : Names w B ss vs) (hB : B' ≤ B) : Names w B' ss vs :=
  ⟨h.1, fun i hi => by obtain ⟨b, e, hb, hc⟩ := h.2 i hi; exact ⟨b, e, by omega, hc⟩⟩

theorem tms_of {w : World} {B B' C : Nat} {v : Value} {args : List ByteArray} {vs : List Value} (hown : w.ownsRow B 49 1 v args.length vs) (hn : Names w B' args vs) (h0 : 0 < args.length) : Tms w.heap.size w args [] C v := by
  rcases hown.2 with ⟨_, e⟩ | ⟨g, cap, cur, rfl, hb, hg, _⟩
  · omega
  · refine ⟨fun k => blk (vs.getD k undef), ⟨g, cap, rfl, lt_of_block hg, fun k hk => ?_⟩, fun k hk => ?_⟩
    · obtain ⟨b, e, _, hc⟩ := hn.2 k hk
      have hk' : k < vs.length := by rw [hn.1]; exact hk
      have e2 : vs[k]? = some (vs.getD k undef) := by simp [List.getD, hk']
      rw [hown.cellAt k (by omega), e2]
      show some (vs.getD k undef) = some (.iface _ (.pointer (some ⟨blk (vs.getD k undef), 0, none⟩)))
      rw [e]
      rfl
    · obtain ⟨b, e, _, hc⟩ := hn.2 k hk
      show El _ _ (blk (vs.getD k undef)) _ _
      rw [e]
      exact ⟨lt_of_block hc, hc⟩

/-- A row of elements as what an append appends. -/
theorem srcOwn {w : World} {B n : Nat} {v : Value} {xs : List Value} (h : w.ownsRow B 49 1 v n xs) (hx : ∀ u ∈ xs, u.oneCell' = true) : Src Try.prog 1 57 v n xs w := by
  have hl : xs.length = n := by simpa using h.1
  rcases h.2 with ⟨rfl, rfl⟩ | ⟨g, cap, cur, rfl, hb, hg, r⟩
  · have : xs = [] := List.eq_nil_of_length_eq_zero hl
    subst this
    exact Src.ofNil w Try.underlying57 0
  · refine Src.ofSlice w Try.underlying57 ⟨g, 0, none⟩ n cap xs (by simp [hl]) (fun j u hu => ?_) hx
    have hj : j < xs.length := (List.getElem?_eq_some_iff.1 hu).1
    rw [Addr.add_lit, Nat.zero_add, h.cellAt j (by omega)]
    exact hu

theorem names_one {w : World} {B : Nat} {ss : List ByteArray} {vs : List Value} (h : Names w B ss vs) : ∀ u ∈ vs, u.oneCell' = true := fun u hu => by
  obtain ⟨i, hi, e⟩ := List.getElem_of_mem hu
  obtain ⟨b, e2, _⟩ := h.2 i (by rw [← h.1]; exact hi)
  have : vs.getD i undef = u := by simp [List.getD, hi, e]
  rw [this] at e2
  rw [e2]
  rfl

/-- What 'templates' hands back. -/
def TemplatesMade (args ns : List ByteArray) (w : World) (e : Ending) (w' : World) : Prop :=
  ∃ b nb v', e = .returned (.iface 114 (.pointer (some ⟨b, 0, none⟩))) ∧ El w'.heap.size w' b #[.iface 97 (.pointer (some ⟨nb, 0, none⟩)), v'] 116 ∧ El w'.heap.size w' nb #[.string (ns.getD 0 ⟨#[]⟩)] 99 ∧ Tms w'.heap.size w' args (ns.drop 1) b v' ∧ Below w.heap.size w w'

theorem Tms.slice {A : Nat} {w : World} {args l : List ByteArray} {B : Nat} {v : Value} (h : Tms A w args l B v) : ∃ a n c, v = .slice a n c := by
  cases l with
  | nil => obtain ⟨bf, ⟨g, cap, e, _⟩, _⟩ := h; exact ⟨_, _, _, e⟩
  | cons x l => obtain ⟨b, nb, v', ⟨g, cap, e, _⟩, _⟩ := h; exact ⟨_, _, _, e⟩

theorem drop_getD (ss : List ByteArray) (k : Nat) (hk : k < ss.length) : ss.drop k = ss.getD k ⟨#[]⟩ :: ss.drop (k + 1) := by
  rw [List.drop_eq_getElem_cons hk]
  simp [List.getD, hk]

set_option maxRecDepth 100000 in
set_option maxHeartbeats 2000000 in
theorem templates_any (a : Option Addr) (n cap : Nat) (ns : List ByteArray) (s : ByteArray) (a2 : Option Addr) (n2 cap2 : Nat) (bs : List ByteArray) (w : World) (h : Strs w a n ns) (h2 : Strs w a2 n2 bs) (h0 : 0 < n) (hn : n ≤ 1000) (hn2 : n2 ≤ 1000) :
    Calls Try.prog 39 #[.slice a n cap, .string s, .slice a2 n2 cap2] w (TemplatesMade (s :: bs) ns w) := by
  obtain ⟨i0, hi, hz0, hz1, hz2⟩ := info_parts Try.infoAst
  have HS := Lib.hid h
  have HS2 := Lib.hid h2
  have hnz : ((n : Int) == 0) = false := by simp; omega
  have hl2 := h2.len
  clear h h2
  go_enter Try.func39, Try.ntmps39
  go_wp2_with fail
  refine (name_any s w).mono ?_
  rintro e w1 ⟨rfl, rfl⟩
  go_wp2_with fail
  have hb2 : Below w.heap.size w ((w.alloc (.cells #[.string s] 99)).alloc (.cells #[.iface 97 (.pointer (some ⟨w.heap.size, 0, none⟩))] 49)) := ((Below.refl _ _).alloc (Nat.le_refl _) _).alloc (by simp) _
  have hrow := (World.ownsRow_lit (base := w.heap.size) (e := 49) (size := 1) (w.alloc (.cells #[.string s] 99)) #[.iface 97 (.pointer (some ⟨w.heap.size, 0, none⟩))] 1 (by simp) (by decide) rfl)
  have hname : ((w.alloc (.cells #[.string s] 99)).alloc (.cells #[.iface 97 (.pointer (some ⟨w.heap.size, 0, none⟩))] 49)).heap[w.heap.size]? = some (.cells #[.string s] 99 (0, 0)) := by rw [Below.heap_alloc _ _ _ (by simp), heap_alloc_new]
  rw [World.size_alloc] at hrow
  have hsz2 : ((w.alloc (.cells #[.string s] 99)).alloc (.cells #[.iface 97 (.pointer (some ⟨w.heap.size, 0, none⟩))] 49)).heap.size = w.heap.size + 2 := by simp
  generalize (w.alloc (.cells #[.string s] 99)).alloc (.cells #[.iface 97 (.pointer (some ⟨w.heap.size, 0, none⟩))] 49) = w2 at *
  refine (names_any a2 n2 cap2 bs w2 (HS2.out.keep hb2) hn2).mono ?_
  rintro e w3 ⟨v, vs, rfl, hown, hnm, hb3⟩
  obtain ⟨av, nv, cv, rfl⟩ : ∃ a n c, v = .slice a n c := by
    rcases hown.2 with ⟨e, _⟩ | ⟨g, cap, cur, e, _⟩
    · exact ⟨_, _, _, e⟩
    · exact ⟨_, _, _, e⟩
  have hrow3 := hrow.kept (Below.grownNone hb3 (Nat.le_refl _)) (.inr (by simp [Value.ownBlock]))
  have hname3 : w3.heap[w.heap.size]? = some (.cells #[.string s] 99 (0, 0)) := by rw [hb3.block _ (by omega)]; exact hname
  have hbw3 := hb2.trans (hb3.mono (by omega))
  have hlen : vs.length = n2 := by rw [hnm.1, hl2]
  go_wp2_with (at_builtin; refine wpList_append_src _ rfl _ _ 57 57 rfl w.heap.size 49 i0 .nilIface 1 16 Try.underlying57 hi hz0 hz1 hz2 rfl _ _ 1 [.iface 97 (.pointer (some ⟨w.heap.size, 0, none⟩))] rfl rfl hrow3 bs.length vs (srcOwn hown (names_one hnm)) ?c3 (by omega) (by have := hb3.size; omega) ?_)
  case c3 => unfold maxLen; omega
  intro v1 w4 hown1 hg4
  have hb4 : Below w.heap.size w w4 := hbw3.grown hg4 (by have := hb3.size; omega) (fun k hk => by simp [Value.ownBlock] at hk; omega)
  have hall : Names w4 w.heap.size (s :: bs) ([.iface 97 (.pointer (some ⟨w.heap.size, 0, none⟩))] ++ vs) := by
    refine Names.cons ((hnm.low (by omega)).keep (w' := w4) (fun b s' _ hb => name_kept hrow3 hg4 hb)) ⟨w.heap.size, rfl, Nat.le_refl _, name_kept hrow3 hg4 hname3⟩
  have ht := tms_of (C := w4.heap.size) (by rw [List.length_cons, Nat.add_comm, hl2]; exact hown1) hall (by simp)
  obtain ⟨a1, n1, c1, rfl⟩ := ht.slice
  have HT := Lib.hid ht
  have HB4 := Lib.hid hb4
  clear hb2 hrow hname hown hnm hb3 hrow3 hname3 hbw3 hown1 hg4 hall ht hb4
  go_wp2_with fail
  go_loopw [7, 8] (fun v i wr => ∃ k : Nat, k + 1 ≤ n ∧ i = .int .i64 k ∧ Tms wr.heap.size wr (s :: bs) (ns.drop (k + 1)) wr.heap.size v ∧ Below w.heap.size w wr) (fun _ i _ => (intOf i).toNat)
  case atStart =>
    refine ⟨n - 1, by omega, by go_num, ?_, HB4.out⟩
    rw [show n - 1 + 1 = n by omega, List.drop_of_length_le (by rw [HS.out.len]; exact Nat.le_refl _)]
    exact HT.out
  case round =>
    obtain ⟨k, hk, rfl, hp, hbel⟩ := hrel
    obtain ⟨a1, n1, c1, rfl⟩ := hp.slice
    clear HT HB4
    obtain ⟨bl, off, rfl, hbl, hc⟩ := HS.out.cells (by omega)
    by_cases hlt : 0 < k
    · have hc1 : wr.cell? ⟨bl, off + k, none⟩ = some (.string (ns.getD k ⟨#[]⟩)) := by rw [hbel.cell (p := ⟨bl, off + k, none⟩) hbl]; exact hc k (by omega)
      have HD := Lib.hid (drop_getD ns k (by rw [HS.out.len]; omega))
      clear hc
      generalize ns.getD k ⟨#[]⟩ = x at *
      obtain ⟨h1, h2, h3, h4⟩ := El.three wr #[.string x] 99 #[.iface 97 (.pointer (some ⟨wr.heap.size, 0, none⟩)), .slice a1 n1 c1] 116 #[.iface 114 (.pointer (some ⟨wr.heap.size + 1, 0, none⟩))] 49
      have hnew : Tms (((wr.alloc (.cells #[.string x] 99)).alloc (.cells #[.iface 97 (.pointer (some ⟨wr.heap.size, 0, none⟩)), .slice a1 n1 c1] 116)).alloc (.cells #[.iface 114 (.pointer (some ⟨wr.heap.size + 1, 0, none⟩))] 49)).heap.size
          (((wr.alloc (.cells #[.string x] 99)).alloc (.cells #[.iface 97 (.pointer (some ⟨wr.heap.size, 0, none⟩)), .slice a1 n1 c1] 116)).alloc (.cells #[.iface 114 (.pointer (some ⟨wr.heap.size + 1, 0, none⟩))] 49)) (s :: bs) (x :: ns.drop (k + 1))
          (((wr.alloc (.cells #[.string x] 99)).alloc (.cells #[.iface 97 (.pointer (some ⟨wr.heap.size, 0, none⟩)), .slice a1 n1 c1] 116)).alloc (.cells #[.iface 114 (.pointer (some ⟨wr.heap.size + 1, 0, none⟩))] 49)).heap.size (.slice (some ⟨wr.heap.size + 1 + 1, 0, none⟩) 1 1) := by
        refine ⟨wr.heap.size + 1, wr.heap.size, .slice a1 n1 c1, ⟨wr.heap.size + 1 + 1, 1, rfl, h3.lt, fun j hj => ?_⟩, h2.lt, h2, h1, hp.grow (by simp; omega) (by omega) h4⟩
        obtain rfl : j = 0 := by omega
        exact h3.cell 0
      have hbn := hbel.trans (h4.mono hbel.size)
      have HN := Lib.hid hnew
      have HB := Lib.hid hbn
      clear hp hnew hbn hbel h1 h2 h3 h4
      go_wp2_with fail
      refine (name_any x wr).mono ?_
      rintro e w5 ⟨rfl, rfl⟩
      go_wp2_with fail
      go_roundw
      case rel => exact ⟨k - 1, by omega, by go_num, by rw [show k - 1 + 1 = k by omega, HD.out]; exact HN.out, HB.out⟩
      case measure => simp [intOf]; omega
    · obtain rfl : k = 0 := by omega
      have hc1 : wr.cell? ⟨bl, off, none⟩ = some (.string (ns.getD 0 ⟨#[]⟩)) := by rw [hbel.cell (p := ⟨bl, off, none⟩) hbl]; exact hc 0 h0
      clear hc
      obtain ⟨h1, h2, h4⟩ := El.two wr #[.string (ns.getD 0 ⟨#[]⟩)] 99 #[.iface 97 (.pointer (some ⟨wr.heap.size, 0, none⟩)), .slice a1 n1 c1] 116
      have H := Lib.hid (show TemplatesMade (s :: bs) ns w (.returned (.iface 114 (.pointer (some ⟨wr.heap.size + 1, 0, none⟩)))) ((wr.alloc (.cells #[.string (ns.getD 0 ⟨#[]⟩)] 99)).alloc (.cells #[.iface 97 (.pointer (some ⟨wr.heap.size, 0, none⟩)), .slice a1 n1 c1] 116)) from
        ⟨_, _, _, rfl, h2, h1, hp.grow (by simp; omega) (by omega) h4, hbel.trans (h4.mono hbel.size)⟩)
      clear hp hbel h1 h2 h4
      generalize ns.getD 0 ⟨#[]⟩ = x at *
      go_wp2_with fail
      refine (name_any x wr).mono ?_
      rintro e w5 ⟨rfl, rfl⟩
      go_wp2_with fail
      go_ret
      exact H.out

set_option maxHeartbeats 1000000 in
theorem printTemplates_any (a : Option Addr) (n cap : Nat) (ns : List ByteArray) (s : ByteArray) (a2 : Option Addr) (n2 cap2 : Nat) (bs : List ByteArray) (w : World) (h : Strs w a n ns) (h2 : Strs w a2 n2 bs) (h0 : 0 < n) (hn : n ≤ 1000) (hn2 : n2 ≤ 1000) (hok : ∀ x ∈ ns, OkName x) (hl : (tmText (s :: bs) ns).size ≤ 140737488355328) :
    Calls Try.prog 31 #[.slice a n cap, .string s, .slice a2 n2 cap2] w fun e w' => e = .returned (.string (tmText (s :: bs) ns)) ∧ Below w.heap.size w w' := by
  have HS := Lib.hid h
  have HS2 := Lib.hid h2
  have HOK := Lib.hid hok
  clear h h2 hok
  go_enter Try.func31, Try.ntmps31
  go_wp2_with fail
  refine (templates_any a n cap ns s a2 n2 cap2 bs w HS.out HS2.out h0 hn hn2).mono ?_
  rintro e w1 ⟨b, nb, v', rfl, he, hnm, ht, hb⟩
  have hb1 : Below w1.heap.size w1 (w1.alloc (.cells #[.int .i64 6] 84)) := (Below.refl _ _).alloc (Nat.le_refl _) _
  have hd : ns = ns.getD 0 ⟨#[]⟩ :: ns.drop 1 := by
    have := drop_getD ns 0 (by rw [HS.out.len]; exact h0)
    simpa using this
  have HD := Lib.hid hd
  clear hd
  have hal : (s :: bs).length ≤ 2000 := by simp only [List.length_cons, HS2.out.len]; omega
  have hnl := HS.out.len
  have HE := Lib.hid (he.grow (A' := (w1.alloc (.cells #[.int .i64 6] 84)).heap.size) (by simp) hb1)
  have HN := Lib.hid (hnm.grow (A' := (w1.alloc (.cells #[.int .i64 6] 84)).heap.size) (by simp) hb1)
  have HT := Lib.hid (ht.grow (A' := (w1.alloc (.cells #[.int .i64 6] 84)).heap.size) (by simp) (Nat.le_refl _) hb1)
  have hbw := hb.trans (hb1.mono hb.size)
  have hcell : (w1.alloc (.cells #[.int .i64 6] 84)).cell? ⟨w1.heap.size, 0, none⟩ = some (.int .i64 6) := Lib.cell_of_heap (heap_alloc_new _ _) 0
  clear he hnm ht hb hb1
  go_wp2_with fail
  generalize hob : w1.heap.size = ob at *
  generalize w1.alloc (.cells #[.int .i64 6] 84) = w2 at *
  refine (ast_llvm _ b _ ob w2 (tmText (s :: bs) ns).data.toList hcell ntTemplate (fun w3 h3 hb3 => ?_)).mono ?_
  · have := mTms w2.heap.size b nb (ns.getD 0 ⟨#[]⟩) v' (s :: bs) (ns.drop 1) w3 PS.startL [] h3 rfl rfl rfl (HE.out.keep hb3) (HN.out.keep hb3) (HOK.out _ (by rw [HD.out]; exact List.mem_cons_self ..)) Others.nil (by simp) (by rw [← HD.out]; simpa [PS.startL, PS.start] using hl)
      (fun σ1 w4 i1 i2 i3 i4 h4 hb4 => print_tms w2.heap.size (s :: bs) hal (ns.drop 1) b v' w4 σ1 [] (HT.out.grow (Nat.le_refl _) (Nat.le_refl _) (hb3.trans hb4)) h4 i1 i2 i3 PrT.nil (fun x hx => HOK.out x (List.mem_of_mem_drop hx)) (by simp; omega) i4)
    rw [← HD.out] at this
    exact this.mono fun _ _ ⟨g1, g2, g3⟩ => ⟨g1, ⟨_, g2, by rw [tmSt_out]; rfl⟩, g3⟩
  rintro e w3 ⟨rfl, hb3⟩
  rw [bytes_mk]
  have hfin := hbw.trans (hb3.mono hbw.size)
  clear hbw hb3 hcell
  go_wp2_with fail
  go_ret
  exact ⟨rfl, hfin⟩

end Go.Proofs.Ytjemnnfnocmjlaa

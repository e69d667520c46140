/-
  Trees that Traverse goes round; the simplest predicates.
-/
import Derived.Test.YtdlhhdhooacogaaGreatDoorWE
namespace Go.Proofs.YtdlhhdhooacogaaGreatDoor
open Go.RowKit

/-- Kinds by what stands below them: nothing; one; two; one and what is not reached; a list. -/
def leafK : List ByteArray := [⟨#[78, 97, 109, 101]⟩, ⟨#[66, 117, 105, 108, 116, 105, 110, 84, 121, 112, 101]⟩, ⟨#[79, 112, 101, 114, 97, 116, 111, 114]⟩, ⟨#[85, 110, 110, 97, 109, 101, 100, 84, 121, 112, 101]⟩]
def oneK : List ByteArray := [⟨#[80, 111, 105, 110, 116, 101, 114, 84, 121, 112, 101]⟩, ⟨#[82, 101, 102, 101, 114, 101, 110, 99, 101, 84, 121, 112, 101]⟩, ⟨#[82, 118, 97, 108, 117, 101, 82, 101, 102, 101, 114, 101, 110, 99, 101, 84, 121, 112, 101]⟩, ⟨#[67, 111, 109, 112, 108, 101, 120, 84, 121, 112, 101]⟩, ⟨#[73, 109, 97, 103, 105, 110, 97, 114, 121, 84, 121, 112, 101]⟩, ⟨#[67, 111, 110, 115, 116, 114, 117, 99, 116, 111, 114]⟩, ⟨#[68, 101, 115, 116, 114, 117, 99, 116, 111, 114]⟩, ⟨#[67, 97, 115, 116]⟩, ⟨#[76, 105, 116, 101, 114, 97, 108]⟩]
def twoK : List ByteArray := [⟨#[81, 117, 97, 108, 105, 102, 105, 101, 100]⟩, ⟨#[84, 121, 112, 101, 100]⟩, ⟨#[65, 114, 114, 97, 121, 84, 121, 112, 101]⟩, ⟨#[80, 116, 114, 77, 101, 109]⟩, ⟨#[86, 101, 99, 116, 111, 114, 84, 121, 112, 101]⟩, ⟨#[86, 101, 110, 100, 111, 114, 81, 117, 97, 108, 105, 102, 105, 101, 114]⟩, ⟨#[84, 97, 103, 103, 101, 100, 78, 97, 109, 101]⟩]
def qualK : List ByteArray := [⟨#[84, 121, 112, 101, 87, 105, 116, 104, 81, 117, 97, 108, 105, 102, 105, 101, 114, 115]⟩, ⟨#[77, 101, 116, 104, 111, 100, 87, 105, 116, 104, 81, 117, 97, 108, 105, 102, 105, 101, 114, 115]⟩]
def listK : List ByteArray := [⟨#[65, 114, 103, 117, 109, 101, 110, 116, 80, 97, 99, 107]⟩, ⟨#[67, 108, 111, 115, 117, 114, 101]⟩]

def NT.kind : NT → ByteArray | .mk k _ _ _ => k
def NT.kids : NT → List NT | .mk _ _ _ ks => ks

/-- What stands behind a type as its qualifiers: nothing, or words without anything below. -/
def Quals (t : NT) : Prop := t.kind = ⟨#[]⟩ ∨ t.kind = ⟨#[81, 117, 97, 108, 105, 102, 105, 101, 114, 115]⟩ ∧ ∀ k ∈ t.kids, k.kind = ⟨#[81, 117, 97, 108, 105, 102, 105, 101, 114]⟩ ∧ k.kids = []

/-- A tree of which Traverse can go round. -/
inductive Good : NT → Prop
  | leaf {kind text : ByteArray} {num : Int} : kind ∈ leafK → Good (.mk kind text num [])
  | one {kind text : ByteArray} {num : Int} {k : NT} : kind ∈ oneK → Good k → Good (.mk kind text num [k])
  | two {kind text : ByteArray} {num : Int} {k l : NT} : kind ∈ twoK → Good k → Good l → Good (.mk kind text num [k, l])
  | qual {kind text : ByteArray} {num : Int} {k l : NT} : kind ∈ qualK → Good k → Quals l → Good (.mk kind text num [k, l])
  | list {kind text : ByteArray} {num : Int} {ks : List NT} : kind ∈ listK → (∀ k ∈ ks, Good k) → Good (.mk kind text num ks)
  | tmpl {kind text : ByteArray} {num : Int} {k : NT} {ks : List NT} : kind = ⟨#[84, 101, 109, 112, 108, 97, 116, 101]⟩ → Good k → (∀ k ∈ ks, Good k) → Good (.mk kind text num (k :: ks))
  | func {kind text : ByteArray} {num : Int} {k : NT} {ks : List NT} : kind = ⟨#[70, 117, 110, 99, 116, 105, 111, 110, 84, 121, 112, 101]⟩ → Good k → (∀ k ∈ ks, Good k) → Good (.mk kind text num (k :: ks))
  | proc {kind text : ByteArray} {num : Int} {k : NT} {ks : List NT} : kind = ⟨#[70, 117, 110, 99, 116, 105, 111, 110, 84, 121, 112, 101]⟩ → k.kind = ⟨#[]⟩ → (∀ k ∈ ks, Good k) → Good (.mk kind text num (k :: ks))

theorem memK {s : ByteArray} {l : List UInt8} {K : List ByteArray} (h : (s.toList == l) = true) (hm : (⟨l.toArray⟩ : ByteArray) ∈ K) : s ∈ K := by rw [eq_list h]; exact hm

/-- A predicate's contract on trees of depth d. -/
def Wk (f : FuncId) (P : NT → Prop) (d : Nat) : Prop := ∀ (t : NT) (kind text : ByteArray) (num : Int) (a : Option Addr) (n cap : Nat) (w : World), NV w [.string kind, .string text, .int .i64 num, .slice a n cap] t → Tabs w → Dep d t →
  Calls Tryz.prog f #[.agg #[.string kind, .string text, .int .i64 num, .slice a n cap]] w (SaysIf (P t) w)

theorem Weak.toWk {f : FuncId} {P : NT → Prop} {d : Nat} (h : Weak f P d) : Wk f P d := fun t kind text num a n cap w hv _ hd => h t kind text num a n cap w hv hd

theorem Dep.mono {d : Nat} {t : NT} (h : Dep d t) : Dep (d + 1) t := by
  induction d generalizing t with
  | zero => exact absurd h id
  | succ d ih => cases t with | mk kind text num kids => exact fun k hk => ih (h k hk)

theorem Wk.mono {f : FuncId} {P : NT → Prop} {d : Nat} (h : Wk f P (d + 1)) : Wk f P d := fun t kind text num a n cap w hv ht hd => h t kind text num a n cap w hv ht hd.mono

theorem Wk.at {f : FuncId} {P : NT → Prop} {d : Nat} (h : Wk f P d) {w : World} {b o : Nat} {t : NT} {kd tx : ByteArray} {nm : Int} {a : Option Addr} {n cap : Nat} (hk : KidAt w b o t kd tx nm a n cap) (ht : Tabs w) (hd : Dep d t) :
    Calls Tryz.prog f #[.agg #[.string kd, .string tx, .int .i64 nm, .slice a n cap]] w (SaysIf (P t) w) := h t kd tx nm a n cap w hk.nv ht hd

theorem NV.kids {w : World} {kind text : ByteArray} {num : Int} {a : Option Addr} {n cap : Nat} {t : NT} (h : NV w [.string kind, .string text, .int .i64 num, .slice a n cap] t) : ∃ kids, t = .mk kind text num kids ∧
    kind.size ≤ maxLen ∧ text.size ≤ maxLen ∧ n = kids.length ∧ n ≤ maxLen ∧ Kids w a kids := by
  obtain ⟨_, _, _, _, _, _, kids, e, rfl, h1, h2, hn, hm, hk, _⟩ := h.opened
  simp at e
  obtain ⟨rfl, rfl, rfl, rfl, rfl, rfl⟩ := e
  exact ⟨kids, rfl, h1, h2, hn, hm, hk⟩

theorem NV.cap {w : World} {kind text : ByteArray} {num : Int} {a : Option Addr} {n cap : Nat} {t : NT} (h : NV w [.string kind, .string text, .int .i64 num, .slice a n cap] t) : n ≤ cap := by
  obtain ⟨_, _, _, _, _, _, kids, e, rfl, h1, h2, hn, hm, hk, hc⟩ := h.opened
  simp at e
  obtain ⟨rfl, rfl, rfl, rfl, rfl, rfl⟩ := e
  exact hc

theorem box_at {w : World} {kind text : ByteArray} {num : Int} {a : Option Addr} {n cap : Nat} {t : NT} (h : NV w [.string kind, .string text, .int .i64 num, .slice a n cap] t) :
    KidAt (w.alloc (.cells #[.string kind, .string text, .int .i64 num, .slice a n cap] 24)) w.heap.size 0 t kind text num a n cap :=
  ⟨h.keep (below_new _ _), by simp, by unfold World.cell?; rw [heap_alloc_new]; rfl, by unfold World.cell?; rw [heap_alloc_new]; rfl, by unfold World.cell?; rw [heap_alloc_new]; rfl, by unfold World.cell?; rw [heap_alloc_new]; rfl⟩

theorem KidAt.box {w : World} {b : Nat} {k : NT} {kd tx : ByteArray} {nm : Int} {a : Option Addr} {n cap : Nat} (h : KidAt w b 0 k kd tx nm a n cap) :
    w.cell? ⟨b, 0, none⟩ = some (.string kd) ∧ w.cell? ⟨b, 1, none⟩ = some (.string tx) ∧ w.cell? ⟨b, 2, none⟩ = some (.int .i64 nm) ∧ w.cell? ⟨b, 3, none⟩ = some (.slice a n cap) := ⟨h.c0, h.c1, h.c2, h.c3⟩

theorem KidAt.cells {w : World} {b o : Nat} {k : NT} {kd tx : ByteArray} {nm : Int} {a : Option Addr} {n cap : Nat} (h : KidAt w b o k kd tx nm a n cap) :
    w.cell? ⟨b, o, none⟩ = some (.string kd) ∧ w.cell? ⟨b, o + 1, none⟩ = some (.string tx) ∧ w.cell? ⟨b, o + 2, none⟩ = some (.int .i64 nm) ∧ w.cell? ⟨b, o + 3, none⟩ = some (.slice a n cap) := ⟨h.c0, h.c1, h.c2, h.c3⟩

theorem nil_of {n : Nat} {ks : List NT} (hn : n = ks.length) (h : n = 0) : ks = [] := by
  cases ks with
  | nil => rfl
  | cons => simp at hn; omega
theorem one_of {n : Nat} {ks : List NT} (hn : n = ks.length) (h : n = 1) : ∃ k, ks = [k] := List.length_eq_one_iff.1 (by omega)
theorem two_of {n : Nat} {ks : List NT} (hn : n = ks.length) (h : n = 2) : ∃ k l, ks = [k, l] := by
  match ks, (by omega : ks.length = 2) with
  | [k, l], _ => exact ⟨k, l, rfl⟩

set_option maxHeartbeats 2000000 in
theorem isReference_any (d : Nat) : Wk 48 (fun _ => True) d := by
  intro t kind text num a n cap w h ht hd
  have hcap := h.cap
  obtain ⟨kids, rfl, hz1, hz2, hn, hm, hk⟩ := h.kids
  have HDT := Lib.hid hd
  have HZ1 := Lib.hid hz1
  have HZ2 := Lib.hid hz2
  have HM := Lib.hid hm
  unfold maxLen at hz1 hz2 hm
  have HB0 := Lib.hid (box_at h)
  have HT0 := Lib.hid (ht.keep (below_new w (.cells #[.string kind, .string text, .int .i64 num, .slice a n cap] 24)))
  have HK0 := Lib.hid (hk.keep (below_new w (.cells #[.string kind, .string text, .int .i64 num, .slice a n cap] 24)))
  have HW0 := Lib.hid (below_new w (.cells #[.string kind, .string text, .int .i64 num, .slice a n cap] 24))
  have HN := Lib.hid hn
  clear hk h ht hd hn
  go_enter Tryz.func48, Tryz.ntmps48
  go_wp2_with fail
  all_goals (go_ret; exact .any HW0.out)

set_option maxHeartbeats 2000000 in
theorem isVoid_any (d : Nat) : Wk 50 (fun _ => True) d := by
  intro t kind text num a n cap w h ht hd
  have hcap := h.cap
  obtain ⟨kids, rfl, hz1, hz2, hn, hm, hk⟩ := h.kids
  have HDT := Lib.hid hd
  have HZ1 := Lib.hid hz1
  have HZ2 := Lib.hid hz2
  have HM := Lib.hid hm
  unfold maxLen at hz1 hz2 hm
  have HB0 := Lib.hid (box_at h)
  have HT0 := Lib.hid (ht.keep (below_new w (.cells #[.string kind, .string text, .int .i64 num, .slice a n cap] 24)))
  have HK0 := Lib.hid (hk.keep (below_new w (.cells #[.string kind, .string text, .int .i64 num, .slice a n cap] 24)))
  have HW0 := Lib.hid (below_new w (.cells #[.string kind, .string text, .int .i64 num, .slice a n cap] 24))
  have HN := Lib.hid hn
  clear hk h ht hd hn
  go_enter Tryz.func50, Tryz.ntmps50
  go_wp2_with fail
  all_goals (go_ret; exact .any HW0.out)

set_option maxHeartbeats 2000000 in
theorem isStd_any (d : Nat) : Wk 29 (fun _ => True) d := by
  intro t kind text num a n cap w h ht hd
  have hcap := h.cap
  obtain ⟨kids, rfl, hz1, hz2, hn, hm, hk⟩ := h.kids
  have HDT := Lib.hid hd
  have HZ1 := Lib.hid hz1
  have HZ2 := Lib.hid hz2
  have HM := Lib.hid hm
  unfold maxLen at hz1 hz2 hm
  have HB0 := Lib.hid (box_at h)
  have HT0 := Lib.hid (ht.keep (below_new w (.cells #[.string kind, .string text, .int .i64 num, .slice a n cap] 24)))
  have HK0 := Lib.hid (hk.keep (below_new w (.cells #[.string kind, .string text, .int .i64 num, .slice a n cap] 24)))
  have HW0 := Lib.hid (below_new w (.cells #[.string kind, .string text, .int .i64 num, .slice a n cap] 24))
  have HN := Lib.hid hn
  clear hk h ht hd hn
  go_enter Tryz.func29, Tryz.ntmps29
  go_wp2_with fail
  all_goals (go_ret; exact .any HW0.out)

set_option maxHeartbeats 2000000 in
theorem isName_any (d : Nat) : Wk 40 Good d := by
  intro t kind text num a n cap w h ht hd
  have hcap := h.cap
  obtain ⟨kids, rfl, hz1, hz2, hn, hm, hk⟩ := h.kids
  have HDT := Lib.hid hd
  have HZ1 := Lib.hid hz1
  have HZ2 := Lib.hid hz2
  have HM := Lib.hid hm
  unfold maxLen at hz1 hz2 hm
  have HB0 := Lib.hid (box_at h)
  have HT0 := Lib.hid (ht.keep (below_new w (.cells #[.string kind, .string text, .int .i64 num, .slice a n cap] 24)))
  have HK0 := Lib.hid (hk.keep (below_new w (.cells #[.string kind, .string text, .int .i64 num, .slice a n cap] 24)))
  have HW0 := Lib.hid (below_new w (.cells #[.string kind, .string text, .int .i64 num, .slice a n cap] 24))
  have HN := Lib.hid hn
  clear hk h ht hd hn
  rcases bt (kind.toList == [78, 97, 109, 101]) with qName | qName
  · by_cases hz0 : num = 0
    rotate_left
    · have qz : (num == 0) = false := by simpa using hz0
      go_enter Tryz.func40, Tryz.ntmps40
      go_wp2_with fail
      all_goals (go_ret; exact .no HW0.out)
    subst hz0
    by_cases hn0 : n = 0
    rotate_left
    · have qn : (n == 0) = false := by simpa using hn0
      have qn2 : 0 < n := by omega
      go_enter Tryz.func40, Tryz.ntmps40
      go_wp2_with fail
      all_goals (go_ret; exact .no HW0.out)
    subst hn0
    go_enter Tryz.func40, Tryz.ntmps40
    go_wp2_with fail
    refine (ident_any _ _ HZ2.out).mono ?_
    rintro e w1 ⟨b1, rfl, hp1, hb1⟩
    have HP1 := Lib.hid hp1
    have HB1 := Lib.hid (HB0.out.keep hb1)
    have HT1 := Lib.hid (HT0.out.keep hb1)
    have HK1 := Lib.hid (HK0.out.keep hb1)
    have HW1 := Lib.hid (behind HW0.out hb1)
    clear hp1 hb1
    obtain ⟨xb0, xb1, xb2, xb3⟩ := HB1.out.box
    cases b1 with
    | false =>
      go_wp2_with fail
      go_ret
      exact .no HW1.out
    | true =>
      go_wp2_with fail
      go_ret
      exact .yes (by have e := nil_of HN.out rfl; subst e; exact .leaf (memK qName (by simp [leafK]))) HW1.out
  go_enter Tryz.func40, Tryz.ntmps40
  go_wp2_with fail
  go_ret
  exact .no HW0.out

set_option maxHeartbeats 2000000 in
theorem isNumber_any (d : Nat) : Wk 54 Good d := by
  intro t kind text num a n cap w h ht hd
  have hcap := h.cap
  obtain ⟨kids, rfl, hz1, hz2, hn, hm, hk⟩ := h.kids
  have HDT := Lib.hid hd
  have HZ1 := Lib.hid hz1
  have HZ2 := Lib.hid hz2
  have HM := Lib.hid hm
  unfold maxLen at hz1 hz2 hm
  have HB0 := Lib.hid (box_at h)
  have HT0 := Lib.hid (ht.keep (below_new w (.cells #[.string kind, .string text, .int .i64 num, .slice a n cap] 24)))
  have HK0 := Lib.hid (hk.keep (below_new w (.cells #[.string kind, .string text, .int .i64 num, .slice a n cap] 24)))
  have HW0 := Lib.hid (below_new w (.cells #[.string kind, .string text, .int .i64 num, .slice a n cap] 24))
  have HN := Lib.hid hn
  clear hk h ht hd hn
  rcases bt (kind.toList == [78, 97, 109, 101]) with qName | qName
  · by_cases hz0 : num = 0
    rotate_left
    · have qz : (num == 0) = false := by simpa using hz0
      go_enter Tryz.func54, Tryz.ntmps54
      go_wp2_with fail
      all_goals (go_ret; exact .no HW0.out)
    subst hz0
    by_cases hn0 : n = 0
    rotate_left
    · have qn : (n == 0) = false := by simpa using hn0
      have qn2 : 0 < n := by omega
      go_enter Tryz.func54, Tryz.ntmps54
      go_wp2_with fail
      all_goals (go_ret; exact .no HW0.out)
    subst hn0
    go_enter Tryz.func54, Tryz.ntmps54
    go_wp2_with fail
    refine (digits_any _ _ HZ2.out).mono ?_
    rintro e w1 ⟨b1, rfl, hp1, hb1⟩
    have HP1 := Lib.hid hp1
    have HB1 := Lib.hid (HB0.out.keep hb1)
    have HT1 := Lib.hid (HT0.out.keep hb1)
    have HK1 := Lib.hid (HK0.out.keep hb1)
    have HW1 := Lib.hid (behind HW0.out hb1)
    clear hp1 hb1
    obtain ⟨xb0, xb1, xb2, xb3⟩ := HB1.out.box
    cases b1 with
    | false =>
      go_wp2_with fail
      go_ret
      exact .no HW1.out
    | true =>
      go_wp2_with fail
      go_ret
      exact .yes (by have e := nil_of HN.out rfl; subst e; exact .leaf (memK qName (by simp [leafK]))) HW1.out
  go_enter Tryz.func54, Tryz.ntmps54
  go_wp2_with fail
  go_ret
  exact .no HW0.out

set_option maxHeartbeats 2000000 in
theorem isTagged_any (d : Nat) : Wk 26 Good d := by
  induction d with
  | zero => intro t kind text num a n cap w h _ hd; exact absurd hd id
  | succ d ih =>
    have IH := Lib.hid ih
    clear ih
    intro t kind text num a n cap w h ht hd
    have hcap := h.cap
    obtain ⟨kids, rfl, hz1, hz2, hn, hm, hk⟩ := h.kids
    have HD := Lib.hid (show ∀ k ∈ kids, Dep d k from hd)
    have HDT := Lib.hid hd
    have HZ1 := Lib.hid hz1
    have HZ2 := Lib.hid hz2
    have HM := Lib.hid hm
    unfold maxLen at hz1 hz2 hm
    have HB0 := Lib.hid (box_at h)
    have HT0 := Lib.hid (ht.keep (below_new w (.cells #[.string kind, .string text, .int .i64 num, .slice a n cap] 24)))
    have HK0 := Lib.hid (hk.keep (below_new w (.cells #[.string kind, .string text, .int .i64 num, .slice a n cap] 24)))
    have HW0 := Lib.hid (below_new w (.cells #[.string kind, .string text, .int .i64 num, .slice a n cap] 24))
    have HN := Lib.hid hn
    clear hk h ht hd hn
    rcases bt (kind.toList == [84, 97, 103, 103, 101, 100, 78, 97, 109, 101]) with qTaggedName | qTaggedName
    · go_enter Tryz.func26, Tryz.ntmps26
      go_wp2_with fail
      refine (plain_any _ _ _ _ _ _ 2 _).mono ?_
      rintro e w1 ⟨b1, rfl, hp1, hb1⟩
      have HP1 := Lib.hid hp1
      have HB1 := Lib.hid (HB0.out.keep hb1)
      have HT1 := Lib.hid (HT0.out.keep hb1)
      have HK1 := Lib.hid (HK0.out.keep hb1)
      have HW1 := Lib.hid (behind HW0.out hb1)
      clear hp1 hb1
      obtain ⟨xb0, xb1, xb2, xb3⟩ := HB1.out.box
      cases b1 with
      | false =>
        go_wp2_with fail
        go_ret
        exact .no HW1.out
      | true =>
        obtain ⟨k0, k1, rfl⟩ := two_of HN.out (HP1.out (by simp))
        obtain rfl := HP1.out (by simp)
        obtain ⟨b, off, kd0, tx0, nm0, a0, n0, cap0, kd1, tx1, nm1, a1, n1, cap1, rfl, hx, hy⟩ := HK1.out.two
        have HX1 := Lib.hid hx
        have HY1 := Lib.hid hy
        clear hx hy
        clear xb0 xb1 xb2 xb3
        obtain ⟨xb0, xb1, xb2, xb3⟩ := HB1.out.box
        obtain ⟨xX0, xX1, xX2, xX3⟩ := HX1.out.cells
        obtain ⟨xY0, xY1, xY2, xY3⟩ := HY1.out.cells
        go_wp2_with fail
        refine (IH.out.at HX1.out HT1.out (HD.out k0 (by simp))).mono ?_
        rintro e w2 ⟨b2, rfl, hp2, hb2⟩
        have HP2 := Lib.hid hp2
        have HB2 := Lib.hid (HB1.out.keep hb2)
        have HT2 := Lib.hid (HT1.out.keep hb2)
        have HX2 := Lib.hid (HX1.out.keep hb2)
        have HY2 := Lib.hid (HY1.out.keep hb2)
        have HW2 := Lib.hid (behind HW1.out hb2)
        clear hp2 hb2
        clear xb0 xb1 xb2 xb3 xX0 xX1 xX2 xX3 xY0 xY1 xY2 xY3
        obtain ⟨xb0, xb1, xb2, xb3⟩ := HB2.out.box
        obtain ⟨xX0, xX1, xX2, xX3⟩ := HX2.out.cells
        obtain ⟨xY0, xY1, xY2, xY3⟩ := HY2.out.cells
        cases b2 with
        | false =>
          go_wp2_with fail
          go_ret
          exact .no HW2.out
        | true =>
          go_wp2_with fail
          refine ((isName_any d).at HY2.out HT2.out (HD.out k1 (by simp))).mono ?_
          rintro e w3 ⟨b3, rfl, hp3, hb3⟩
          have HP3 := Lib.hid hp3
          have HB3 := Lib.hid (HB2.out.keep hb3)
          have HT3 := Lib.hid (HT2.out.keep hb3)
          have HX3 := Lib.hid (HX2.out.keep hb3)
          have HY3 := Lib.hid (HY2.out.keep hb3)
          have HW3 := Lib.hid (behind HW2.out hb3)
          clear hp3 hb3
          clear xb0 xb1 xb2 xb3 xX0 xX1 xX2 xX3 xY0 xY1 xY2 xY3
          obtain ⟨xb0, xb1, xb2, xb3⟩ := HB3.out.box
          obtain ⟨xX0, xX1, xX2, xX3⟩ := HX3.out.cells
          obtain ⟨xY0, xY1, xY2, xY3⟩ := HY3.out.cells
          cases b3 with
          | false =>
            go_wp2_with fail
            go_ret
            exact .no HW3.out
          | true =>
            go_wp2_with fail
            go_ret
            exact .yes (.two (memK qTaggedName (by simp [twoK])) (HP2.out (by simp)) (HP3.out (by simp))) HW3.out
    go_enter Tryz.func26, Tryz.ntmps26
    go_wp2_with fail
    refine ((isName_any (d + 1)).at HB0.out HT0.out HDT.out).mono ?_
    rintro e w1 ⟨b1, rfl, hp1, hb1⟩
    have HP1 := Lib.hid hp1
    have HB1 := Lib.hid (HB0.out.keep hb1)
    have HT1 := Lib.hid (HT0.out.keep hb1)
    have HK1 := Lib.hid (HK0.out.keep hb1)
    have HW1 := Lib.hid (behind HW0.out hb1)
    clear hp1 hb1
    obtain ⟨xb0, xb1, xb2, xb3⟩ := HB1.out.box
    cases b1 with
    | false =>
      go_wp2_with fail
      go_ret
      exact .no HW1.out
    | true =>
      go_wp2_with fail
      go_ret
      exact .yes (HP1.out (by simp)) HW1.out

end Go.Proofs.YtdlhhdhooacogaaGreatDoor

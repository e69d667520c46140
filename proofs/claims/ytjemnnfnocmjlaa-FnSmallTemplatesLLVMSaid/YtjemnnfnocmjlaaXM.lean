/-
  Templates in templates: what their arguments are printed to.
-/
import Derived.Test.YtjemnnfnocmjlaaXL
namespace Go.Proofs.Ytjemnnfnocmjlaa
open Go.RowKit

/-- The state behind the first k names of a list. -/
def stN (σ : PS) (args : List ByteArray) : Nat → PS
  | 0 => σ
  | k + 1 => (sepSt k (stN σ args k)).text (args.getD k ⟨#[]⟩).data.toList

/-- The state behind the arguments: names in the innermost list. -/
def tmSt (σ : PS) (args : List ByteArray) : List ByteArray → PS
  | [] => stN σ args args.length
  | x :: rest => ((tmSt (((σ.text x.data.toList).scope 0).byte 60) args rest).byte 62).scope σ.scopes

/-- The text of the arguments. -/
def tmText (args : List ByteArray) : List ByteArray → ByteArray
  | [] => joinN args args.length
  | x :: l => ((x ++ ByteArray.mk #[60]) ++ tmText args l) ++ ByteArray.mk #[62]

theorem stN_iv (σ : PS) (args : List ByteArray) (k : Nat) : (stN σ args k).iv = σ.iv := by
  induction k with
  | zero => rfl
  | succ k ih =>
    show (sepSt k (stN σ args k)).iv = _
    cases k <;> exact ih

theorem stN_llvm (σ : PS) (args : List ByteArray) (k : Nat) : (stN σ args k).llvm = σ.llvm := by
  induction k with
  | zero => rfl
  | succ k ih =>
    show (sepSt k (stN σ args k)).llvm = _
    rw [sepSt_llvm, ih]

theorem stN_kept (σ : PS) (args : List ByteArray) (k : Nat) (K : List (Nat × Array Value × Nat)) : stN { σ with kept := K } args k = { stN σ args k with kept := K } := by
  induction k with
  | zero => rfl
  | succ k ih =>
    show (sepSt k (stN { σ with kept := K } args k)).text _ = _
    rw [ih]
    cases k <;> rfl

theorem stN_keptIs (σ : PS) (args : List ByteArray) (k : Nat) : (stN σ args k).kept = σ.kept := by
  induction k with
  | zero => rfl
  | succ k ih =>
    show (sepSt k (stN σ args k)).kept = _
    cases k <;> exact ih

theorem stN_out (σ : PS) (args : List ByteArray) (k : Nat) : (stN σ args k).out = σ.out ++ (joinN args k).data.toList := by
  induction k with
  | zero => simp [stN, joinN]
  | succ k ih =>
    rw [stN, PS.text_out]
    cases k with
    | zero => simp [sepSt, stN, joinN]
    | succ k =>
      rw [sepSt, PS.text_out, ih, joinN, bytes_append, bytes_append]
      simp only [List.append_assoc]

theorem tmSt_iv (args l : List ByteArray) : ∀ σ : PS, (tmSt σ args l).iv = σ.iv := by
  induction l with
  | nil => exact fun σ => stN_iv σ args _
  | cons x l ih => exact fun σ => ih _

theorem tmSt_llvm (args l : List ByteArray) : ∀ σ : PS, (tmSt σ args l).llvm = σ.llvm := by
  induction l with
  | nil => exact fun σ => stN_llvm σ args _
  | cons x l ih => exact fun σ => ih _

theorem tmSt_keptIs (args l : List ByteArray) : ∀ σ : PS, (tmSt σ args l).kept = σ.kept := by
  induction l with
  | nil => exact fun σ => stN_keptIs σ args _
  | cons x l ih => exact fun σ => ih _

theorem tmSt_kept (args l : List ByteArray) (K : List (Nat × Array Value × Nat)) : ∀ σ : PS, tmSt { σ with kept := K } args l = { tmSt σ args l with kept := K } := by
  induction l with
  | nil => exact fun σ => stN_kept σ args _ K
  | cons x l ih =>
    intro σ
    show ((tmSt { (((σ.text x.data.toList).scope 0).byte 60) with kept := K } args l).byte 62).scope σ.scopes = _
    rw [ih]
    rfl

theorem tmSt_out (args l : List ByteArray) : ∀ σ : PS, (tmSt σ args l).out = σ.out ++ (tmText args l).data.toList := by
  induction l with
  | nil => exact fun σ => stN_out σ args _
  | cons x l ih =>
    intro σ
    show ((tmSt (((σ.text x.data.toList).scope 0).byte 60) args l).out ++ [62]) = _
    rw [ih, tmText, bytes_append, bytes_append, bytes_append]
    show (((σ.out ++ x.data.toList) ++ [60]) ++ _) ++ [62] = _
    simp only [List.append_assoc]

theorem out_len {l l' : List UInt8} {b : ByteArray} (h : l = l' ++ b.data.toList) : l.length = l'.length + b.size := by
  rw [h, List.length_append, Array.length_toList]
  rfl

theorem joinN_step (args : List ByteArray) (k : Nat) : (joinN args k).size + (args.getD k ⟨#[]⟩).size ≤ (joinN args (k + 1)).size := by
  cases k with
  | zero =>
    simp only [joinN, ByteArray.size_append]
    show 0 + _ ≤ 0 + _
    omega
  | succ k =>
    rw [show joinN args (k + 1 + 1) = (joinN args (k + 1) ++ commaW) ++ args.getD (k + 1) ⟨#[]⟩ from rfl, ByteArray.size_append, ByteArray.size_append]
    omega

theorem joinN_mono (args : List ByteArray) {k m : Nat} (h : k ≤ m) : (joinN args k).size ≤ (joinN args m).size := by
  induction m with
  | zero => rw [Nat.le_zero.1 h]; exact Nat.le_refl _
  | succ m ih =>
    rcases Nat.lt_or_ge k (m + 1) with hlt | hge
    · have := ih (by omega)
      have := joinN_step args m
      omega
    · rw [Nat.le_antisymm h hge]; exact Nat.le_refl _

/-- A slice of elements of these types and blocks. -/
def Row (A : Nat) (w : World) (v : Value) (n : Nat) (Tf bf : Nat → Nat) : Prop :=
  ∃ g cap, v = .slice (some ⟨g, 0, none⟩) n cap ∧ g < A ∧ ∀ k, k < n → w.cell? ⟨g, k, none⟩ = some (.iface (Tf k) (.pointer (some ⟨bf k, 0, none⟩)))

theorem Row.grow {A A' : Nat} {w w' : World} {v : Value} {n : Nat} {Tf bf : Nat → Nat} (h : Row A w v n Tf bf) (hA : A ≤ A') (hb : Below A w w') : Row A' w' v n Tf bf := by
  obtain ⟨g, cap, e, hg, hc⟩ := h
  exact ⟨g, cap, e, by omega, fun k hk => by rw [hb.cell (p := ⟨g, k, none⟩) hg]; exact hc k hk⟩

/-- The slice v holds the arguments: templates in templates, names in the innermost; every template lies below B. -/
def Tms (A : Nat) (w : World) (args : List ByteArray) : List ByteArray → Nat → Value → Prop
  | [], _, v => ∃ bf, Row A w v args.length (fun _ => 97) bf ∧ ∀ k, k < args.length → El A w (bf k) #[.string (args.getD k ⟨#[]⟩)] 99
  | x :: rest, B, v => ∃ b nb v', Row A w v 1 (fun _ => 114) (fun _ => b) ∧ b < B ∧ El A w b #[.iface 97 (.pointer (some ⟨nb, 0, none⟩)), v'] 116 ∧ El A w nb #[.string x] 99 ∧ Tms A w args rest b v'

theorem Tms.grow {A A' : Nat} {w w' : World} {args l : List ByteArray} {B B' : Nat} {v : Value} (h : Tms A w args l B v) (hA : A ≤ A') (hB : B ≤ B') (hb : Below A w w') : Tms A' w' args l B' v := by
  induction l generalizing v B B' with
  | nil =>
    obtain ⟨bf, h1, h2⟩ := h
    exact ⟨bf, h1.grow hA hb, fun k hk => (h2 k hk).grow hA hb⟩
  | cons x l ih =>
    obtain ⟨b, nb, v', h1, h2, h3, h4, h5⟩ := h
    exact ⟨b, nb, v', h1.grow hA hb, by omega, h3.grow hA hb, h4.grow hA hb, ih h5 (Nat.le_refl _)⟩

/-- What is being printed: templates at B or above. -/
def PrT (A : Nat) (w : World) (B : Nat) (pr : List Value) : Prop := ∀ u ∈ pr, ∃ b' c, u = .iface 114 (.pointer (some ⟨b', 0, none⟩)) ∧ El A w b' c 116 ∧ B ≤ b'

theorem PrT.keep {A B B' : Nat} {w w' : World} {pr : List Value} (h : PrT A w B pr) (hb : Below A w w') (hB : B' ≤ B) : PrT A w' B' pr := fun u hu => by
  obtain ⟨b', c, e, he, hle⟩ := h u hu
  exact ⟨b', c, e, he.keep hb, by omega⟩

theorem PrT.snoc {A B b : Nat} {c : Array Value} {w : World} {pr : List Value} (h : PrT A w B pr) (he : El A w b c 116) (hlt : b < B) : PrT A w b (pr ++ [.iface 114 (.pointer (some ⟨b, 0, none⟩))]) := fun u hu => by
  rcases List.mem_append.1 hu with hu | hu
  · obtain ⟨b', c', e, he', hle⟩ := h u hu
    exact ⟨b', c', e, he', by omega⟩
  · simp at hu
    exact ⟨b, c, hu, he, Nat.le_refl _⟩

theorem PrT.nil {A B : Nat} {w : World} : PrT A w B [] := fun u hu => by simp at hu

theorem PrT.others {A B b T : Nat} {c : Array Value} {w : World} {pr : List Value} (h : PrT A w B pr) (he : El A w b c T) (hT : T ≠ 116) : Others A w b pr := fun u hu => by
  obtain ⟨b', c', e, he', _⟩ := h u hu
  refine ⟨_, b', e, he'.node, fun eb => ?_⟩
  subst eb
  have := he.heap.symm.trans he'.heap
  simp at this
  exact hT this.2

theorem PrT.othersLt {A B b : Nat} {w : World} {pr : List Value} (h : PrT A w B pr) (hlt : b < B) : Others A w b pr := fun u hu => by
  obtain ⟨b', c', e, he', hle⟩ := h u hu
  exact ⟨_, b', e, he'.node, by omega⟩

theorem keep_self (y : PS) {K : List (Nat × Array Value × Nat)} (h : y.kept = K) : { y with kept := K } = y := by subst h; rfl

/-- Template's print, by the state. -/
theorem mTms (A b nb : Nat) (x : ByteArray) (v' : Value) (args rest : List ByteArray) (w : World) (σ : PS) (pr : List Value) (h : PSt A w σ pr) (hiv : σ.iv = .slice none 0 0) (htp : σ.tp = true) (hv : σ.llvm = true)
    (he : El A w b #[.iface 97 (.pointer (some ⟨nb, 0, none⟩)), v'] 116) (hn : El A w nb #[.string x] 99) (hok : OkName x) (ho : Others A w nb pr) (hl : pr.length ≤ 100000)
    (hsz : σ.out.length + (tmText args (x :: rest)).size ≤ 140737488355328)
    (hargs : ∀ σ1 w1, σ1.iv = .slice none 0 0 → σ1.tp = true → σ1.llvm = true → σ1.out.length + (tmText args rest).size ≤ 140737488355328 → PSt A w1 σ1 pr → Below A w w1 →
      Calls Try.prog 79 #[.pointer (some ⟨A, 0, none⟩), v', .func (.func 154) #[.pointer (some ⟨A, 0, none⟩)] #[]] w1 fun e w2 => e = .returned (.tuple #[]) ∧ PSt A w2 (tmSt σ1 args rest) pr ∧ Below A w1 w2) :
    Calls Try.prog 152 #[.pointer (some ⟨b, 0, none⟩), .pointer (some ⟨A, 0, none⟩)] w fun e w' => e = .returned (.tuple #[]) ∧ PSt A w' (tmSt σ args (x :: rest)) pr ∧ Below A w w' := by
  have hz : (tmText args (x :: rest)).size = x.size + 1 + (tmText args rest).size + 1 := by
    rw [tmText, ByteArray.size_append, ByteArray.size_append, ByteArray.size_append]
    rfl
  have ho1 : (((σ.text x.data.toList).scope 0).byte 60).out.length = σ.out.length + x.size + 1 := by
    show ((σ.out ++ x.data.toList) ++ [60]).length = _
    rw [List.length_append, List.length_append, Array.length_toList]
    rfl
  have ho2 := out_len (tmSt_out args rest (((σ.text x.data.toList).scope 0).byte 60))
  have := mTemplate_any A b nb x v' w σ (tmSt (((σ.text x.data.toList).scope 0).byte 60) args rest) pr h hiv htp (by rw [tmSt_iv]; exact hiv) (by rw [tmSt_llvm]; exact hv) he hn hok ho hl (by omega) (by omega) (fun K w1 h1 hb1 => by
    have := hargs { (((σ.text x.data.toList).scope 0).byte 60) with kept := K } w1 hiv htp hv (by show (((σ.text x.data.toList).scope 0).byte 60).out.length + _ ≤ _; omega) h1 hb1
    rw [tmSt_kept] at this
    exact this)
  rw [keep_self (((tmSt (((σ.text x.data.toList).scope 0).byte 60) args rest).byte 62).scope σ.scopes) (K := σ.kept) (tmSt_keptIs args rest _)] at this
  exact this

theorem print_tms (A : Nat) (args : List ByteArray) (hargs : args.length ≤ 2000) (l : List ByteArray) : ∀ (B : Nat) (v : Value) (w : World) (σ : PS) (pr : List Value), Tms A w args l B v → PSt A w σ pr → σ.iv = .slice none 0 0 → σ.tp = true → σ.llvm = true → PrT A w B pr → (∀ x ∈ l, OkName x) →
    pr.length + l.length ≤ 100000 → σ.out.length + (tmText args l).size ≤ 140737488355328 →
    Calls Try.prog 79 #[.pointer (some ⟨A, 0, none⟩), v, .func (.func 154) #[.pointer (some ⟨A, 0, none⟩)] #[]] w fun e w' => e = .returned (.tuple #[]) ∧ PSt A w' (tmSt σ args l) pr ∧ Below A w w' := by
  induction l with
  | nil =>
    intro B v w σ pr ht h hiv htp hv hpr hok hl ho
    obtain ⟨bf, ⟨g, cap, rfl, hg, hc⟩, hel⟩ := ht
    have hsep : ∀ k, k < args.length → (sepSt k (stN σ args k)).out.length + (args.getD k ⟨#[]⟩).size ≤ 140737488355328 := fun k hk => by
      have h1 := out_len (stN_out σ args (k + 1))
      have h3 := joinN_mono args (show k + 1 ≤ args.length from hk)
      have h4 : (tmText args []).size = (joinN args args.length).size := rfl
      have h5 : (stN σ args (k + 1)).out.length = (sepSt k (stN σ args k)).out.length + (args.getD k ⟨#[]⟩).size := out_len rfl
      omega
    refine printList_any A g args.length cap _ bf (stN σ args) pr w hg hargs hc (fun _ _ => liName) (fun k _ => by rw [stN_llvm]; exact hv) (fun k hk => ?_) h (fun k hk w1 h1 hb1 => ?_)
    · have := hsep (k + 1) hk
      rw [show sepSt (k + 1) (stN σ args (k + 1)) = (stN σ args (k + 1)).text commaW.data.toList from rfl, PS.text_out, List.length_append, show commaW.data.toList.length = 2 from rfl] at this
      omega
    · exact print_name A (bf k) _ w1 _ pr h1 ((hel k hk).keep hb1) ((hpr.keep hb1 (Nat.le_refl _)).others ((hel k hk).keep hb1) (by decide)) (by omega) (hsep k hk)
  | cons x l ih =>
    intro B v w σ pr ht h hiv htp hv hpr hok hl ho
    obtain ⟨b, nb, v', ⟨g, cap, rfl, hg, hc⟩, hlt, he, hn, hts⟩ := ht
    simp only [List.length_cons] at hl
    refine printList_any A g 1 cap _ (fun _ => b) (fun k => match k with | 0 => σ | _ + 1 => tmSt σ args (x :: l)) pr w hg (by decide) hc (fun _ _ => liTemplate) (fun k _ => ?_) (fun k hk => ?_) h (fun k hk w1 h1 hb1 => ?_)
    · cases k with
      | zero => exact hv
      | succ k => show (tmSt σ args (x :: l)).llvm = true; rw [tmSt_llvm]; exact hv
    · omega
    · obtain rfl : k = 0 := by omega
      refine print_any A _ b _ w1 σ _ pr h1 ntTemplate (he.keep hb1).node ((hpr.keep hb1 (Nat.le_refl _)).othersLt hlt) (by omega) fun w2 h2 hb2 => ?_
      have hbb := hb1.trans hb2
      have hpr2 := (hpr.keep hbb (Nat.le_refl _)).snoc (he.keep hbb) hlt
      refine mTms A b nb x v' args l w2 σ _ h2 hiv htp hv (he.keep hbb) (hn.keep hbb) (hok x (List.mem_cons_self ..)) (hpr2.others (hn.keep hbb) (by decide)) (by simp; omega) ho fun σ1 w3 i1 i2 i3 i4 h3 hb3 => ?_
      have hbb3 := hbb.trans hb3
      exact ih b v' w3 σ1 _ (hts.grow (Nat.le_refl _) (Nat.le_refl _) hbb3) h3 i1 i2 i3 ((hpr.keep hbb3 (Nat.le_refl _)).snoc (he.keep hbb3) hlt) (fun y hy => hok y (List.mem_cons_of_mem _ hy)) (by simp; omega) i4

def PS.startL : PS := { PS.start with llvm := true }

set_option maxHeartbeats 2000000 in
theorem ast_llvm (T b f ob : Nat) (w : World) (text : List UInt8) (hob : w.cell? ⟨ob, 0, none⟩ = some (.int .i64 6)) (ht : NodeT T f) (hw : Whole w.heap.size w f b PS.startL text) :
    Calls Try.prog 32 #[.iface T (.pointer (some ⟨b, 0, none⟩)), .slice (some ⟨ob, 0, none⟩) 1 1] w fun e w' => e = .returned (.string ⟨text.toArray⟩) ∧ Below w.heap.size w w' := by
  have HW := Lib.hid hw
  have e1 := ht.m
  have e2 := ht.c
  clear hw ht
  go_enter Try.func32, Try.ntmps32
  go_wp2_with fail
  refine wp_loop_rounds 2 ?_
  rw [rounds_succ]
  go_wp2_with fail
  rw [rounds_succ]
  go_wp2_with fail
  refine (HW.out _ (PSt.fresh w _ PS.startL rfl rfl rfl rfl rfl) ((Below.refl _ w).alloc (Nat.le_refl _) _)).mono ?_
  rintro e w2 ⟨rfl, ⟨σ', hp, ho⟩, hb⟩
  have hb1 := ((Below.refl w.heap.size w).alloc (Nat.le_refl _) _).trans hb
  have HO := Lib.hid ho
  clear ho hb e1 e2
  go_wp2_with fail
  refine (string_any w.heap.size w2 σ' [] hp).mono ?_
  rintro e w3 ⟨rfl, hb3⟩
  go_wp2_with fail
  go_ret
  exact ⟨by rw [← HO.out]; rfl, hb1.trans hb3⟩

end Go.Proofs.Ytjemnnfnocmjlaa

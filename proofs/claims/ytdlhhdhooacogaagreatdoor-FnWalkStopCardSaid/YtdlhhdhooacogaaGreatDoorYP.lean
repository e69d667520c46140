/-
  treeOf at every tree that Traverse can go round.
-/
import Derived.Test.YtdlhhdhooacogaaGreatDoorYJ
import Derived.Test.YtdlhhdhooacogaaGreatDoorYK
import Derived.Test.YtdlhhdhooacogaaGreatDoorYL
import Derived.Test.YtdlhhdhooacogaaGreatDoorYM
import Derived.Test.YtdlhhdhooacogaaGreatDoorYN
import Derived.Test.YtdlhhdhooacogaaGreatDoorYO
namespace Go.Proofs.YtdlhhdhooacogaaGreatDoor
open Go.RowKit

theorem tc_leaf {kind text : ByteArray} {num : Int} (hk : kind ∈ leafK) : TreeC (Elem fun stop => kind :: (if kind = stop then [] else [])) (.mk kind text num []) := by
  intro kind' text' num' a n cap w h
  obtain ⟨ks', e, _⟩ := h.kids
  simp at e
  obtain ⟨rfl, rfl, rfl, rfl⟩ := e
  simp only [leafK, List.mem_cons, List.not_mem_nil, or_false] at hk
  rcases hk with rfl | rfl | rfl | rfl
  · exact to_Name _ _ _ _ _ _
  · exact to_BuiltinType _ _ _ _ _ _
  · exact to_Operator _ _ _ _ _ _
  · exact up_UnnamedType _ _ _ _ _ _ _ _ h (fun w' _ => to_UnnamedType _ _ _ _ _ _)

theorem tc_one {kind text : ByteArray} {num : Int} {k : NT} {ks : ByteArray → List ByteArray} (h1 : TreeC (Elem ks) k) (hk : kind ∈ oneK) : TreeC (Elem fun stop => kind :: (if kind = stop then [] else ks stop)) (.mk kind text num [k]) := by
  intro kind' text' num' a n cap w h
  obtain ⟨ks', e, _⟩ := h.kids
  simp at e
  obtain ⟨rfl, rfl, rfl, rfl⟩ := e
  simp only [oneK, List.mem_cons, List.not_mem_nil, or_false] at hk
  rcases hk with rfl | rfl | rfl | rfl | rfl | rfl | rfl | rfl | rfl
  · exact to_PointerType k ks h1 _ _ _ _ _ _ h
  · exact to_ReferenceType k ks h1 _ _ _ _ _ _ h
  · exact to_RvalueReferenceType k ks h1 _ _ _ _ _ _ h
  · exact to_ComplexType k ks h1 _ _ _ _ _ _ h
  · exact to_ImaginaryType k ks h1 _ _ _ _ _ _ h
  · exact to_Constructor k ks h1 _ _ _ _ _ _ h
  · exact to_Destructor k ks h1 _ _ _ _ _ _ h
  · exact up_Cast _ _ _ _ _ _ _ _ h (fun w' h' => to_Cast k ks h1 _ _ _ _ _ _ h')
  · exact up_Literal _ _ _ _ _ _ _ _ h (fun w' h' => to_Literal k ks h1 _ _ _ _ _ _ h')

theorem tc_two {kind text : ByteArray} {num : Int} {k l : NT} {ks ks2 : ByteArray → List ByteArray} (h1 : TreeC (Elem ks) k) (h2 : TreeC (Elem ks2) l) (hk : kind ∈ twoK) : TreeC (Elem fun stop => kind :: (if kind = stop then [] else ks stop ++ ks2 stop)) (.mk kind text num [k, l]) := by
  intro kind' text' num' a n cap w h
  obtain ⟨ks', e, _⟩ := h.kids
  simp at e
  obtain ⟨rfl, rfl, rfl, rfl⟩ := e
  simp only [twoK, List.mem_cons, List.not_mem_nil, or_false] at hk
  rcases hk with rfl | rfl | rfl | rfl | rfl | rfl | rfl
  · exact to_Qualified k l ks ks2 h1 h2 _ _ _ _ _ _ h
  · exact to_Typed k l ks ks2 h1 h2 _ _ _ _ _ _ h
  · exact up_ArrayType _ _ _ _ _ _ _ _ h (fun w' h' => to_ArrayType k l ks ks2 h1 h2 _ _ _ _ _ _ h')
  · exact up_PtrMem _ _ _ _ _ _ _ _ h (fun w' h' => to_PtrMem k l ks ks2 h1 h2 _ _ _ _ _ _ h')
  · exact up_VectorType _ _ _ _ _ _ _ _ h (fun w' h' => to_VectorType k l ks ks2 h1 h2 _ _ _ _ _ _ h')
  · exact up_VendorQualifier _ _ _ _ _ _ _ _ h (fun w' h' => to_VendorQualifier k l ks ks2 h1 h2 _ _ _ _ _ _ h')
  · exact up_TaggedName _ _ _ _ _ _ _ _ h (fun w' h' => to_TaggedName k l ks ks2 h1 h2 _ _ _ _ _ _ h')

theorem tc_qualNil {kind text : ByteArray} {num : Int} {k l : NT} {ks : ByteArray → List ByteArray} (h1 : TreeC (Elem ks) k) (h2 : TreeC NilE l) (hk : kind ∈ qualK) : TreeC (Elem fun stop => kind :: (if kind = stop then [] else ks stop)) (.mk kind text num [k, l]) := by
  intro kind' text' num' a n cap w h
  obtain ⟨ks', e, _⟩ := h.kids
  simp at e
  obtain ⟨rfl, rfl, rfl, rfl⟩ := e
  simp only [qualK, List.mem_cons, List.not_mem_nil, or_false] at hk
  rcases hk with rfl | rfl
  · exact to_TypeWithQualifiersNil k l ks h1 h2 _ _ _ _ _ _ h
  · exact to_MethodWithQualifiersNil k l ks h1 h2 _ _ _ _ _ _ h

theorem tc_qualSome {kind text : ByteArray} {num : Int} {k l : NT} {ks : ByteArray → List ByteArray} (h1 : TreeC (Elem ks) k) (h2 : TreeC IfaceE l) (hk : kind ∈ qualK) : TreeC (Elem fun stop => kind :: (if kind = stop then [] else ks stop)) (.mk kind text num [k, l]) := by
  intro kind' text' num' a n cap w h
  obtain ⟨ks', e, _⟩ := h.kids
  simp at e
  obtain ⟨rfl, rfl, rfl, rfl⟩ := e
  simp only [qualK, List.mem_cons, List.not_mem_nil, or_false] at hk
  rcases hk with rfl | rfl
  · exact to_TypeWithQualifiersSome k l ks h1 h2 _ _ _ _ _ _ h
  · exact to_MethodWithQualifiersSome k l ks h1 h2 _ _ _ _ _ _ h

theorem tc_list {kind text : ByteArray} {num : Int} {kl : List NT} {kk : Nat → ByteArray → List ByteArray} (h2 : ∀ i, 0 ≤ i → i < kl.length → TreeC (Elem (kk i)) (kl.getD i default)) (hn : kl.length ≤ 1000) (hk : kind ∈ listK) : TreeC (Elem fun stop => kind :: (if kind = stop then [] else ((List.range (kl.length - 0)).map fun i => kk (0 + i) stop).flatten)) (.mk kind text num kl) := by
  intro kind' text' num' a n cap w h
  obtain ⟨ks', e, _⟩ := h.kids
  simp at e
  obtain ⟨rfl, rfl, rfl, rfl⟩ := e
  simp only [listK, List.mem_cons, List.not_mem_nil, or_false] at hk
  rcases hk with rfl | rfl
  · obtain ⟨_, e2, _, _, hn2, _⟩ := h.kids; simp at e2; subst e2; subst hn2; exact up_ArgumentPack _ _ _ _ _ _ _ _ h (fun w' h' => to_ArgumentPack kl kk h2 (fun n hn' => by omega) _ _ _ _ _ _ h')
  · obtain ⟨_, e2, _, _, hn2, _⟩ := h.kids; simp at e2; subst e2; subst hn2; exact up_Closure _ _ _ _ _ _ _ _ h (fun w' h' => to_Closure kl kk h2 (fun n hn' => by omega) _ _ _ _ _ _ h')

theorem tc_tmpl {text : ByteArray} {num : Int} {k : NT} {kl : List NT} {ks : ByteArray → List ByteArray} {kk : Nat → ByteArray → List ByteArray} (h1 : TreeC (Elem ks) k) (h2 : ∀ i, 1 ≤ i → i < (k :: kl).length → TreeC (Elem (kk i)) ((k :: kl).getD i default)) (hn : (k :: kl).length ≤ 1000) :
    TreeC (Elem fun stop => ⟨#[84, 101, 109, 112, 108, 97, 116, 101]⟩ :: (if (⟨#[84, 101, 109, 112, 108, 97, 116, 101]⟩ : ByteArray) = stop then [] else ks stop ++ ((List.range ((k :: kl).length - 1)).map fun i => kk (1 + i) stop).flatten)) (.mk ⟨#[84, 101, 109, 112, 108, 97, 116, 101]⟩ text num (k :: kl)) := by
  intro kind' text' num' a n cap w h
  obtain ⟨ks', e, _, _, hn2, _⟩ := h.kids
  simp at e
  obtain ⟨rfl, rfl, rfl, rfl⟩ := e
  subst hn2
  exact to_Template k kl ks kk h1 h2 (fun n hn' => by omega) _ _ _ _ _ _ h

theorem tc_func {text : ByteArray} {num : Int} {k : NT} {kl : List NT} {ks : ByteArray → List ByteArray} {kk : Nat → ByteArray → List ByteArray} (h1 : TreeC (Elem ks) k) (h2 : ∀ i, 1 ≤ i → i < (k :: kl).length → TreeC (Elem (kk i)) ((k :: kl).getD i default)) (hn : (k :: kl).length ≤ 1000) :
    TreeC (Elem fun stop => ⟨#[70, 117, 110, 99, 116, 105, 111, 110, 84, 121, 112, 101]⟩ :: (if (⟨#[70, 117, 110, 99, 116, 105, 111, 110, 84, 121, 112, 101]⟩ : ByteArray) = stop then [] else ks stop ++ ((List.range ((k :: kl).length - 1)).map fun i => kk (1 + i) stop).flatten)) (.mk ⟨#[70, 117, 110, 99, 116, 105, 111, 110, 84, 121, 112, 101]⟩ text num (k :: kl)) := by
  intro kind' text' num' a n cap w h
  obtain ⟨ks', e, _, _, hn2, _⟩ := h.kids
  simp at e
  obtain ⟨rfl, rfl, rfl, rfl⟩ := e
  subst hn2
  exact to_FunctionType k kl ks kk h1 h2 (fun n hn' => by omega) _ _ _ _ _ _ h

theorem tc_proc {text : ByteArray} {num : Int} {k : NT} {kl : List NT} {kk : Nat → ByteArray → List ByteArray} (h1 : TreeC NilE k) (h2 : ∀ i, 1 ≤ i → i < (k :: kl).length → TreeC (Elem (kk i)) ((k :: kl).getD i default)) (hn : (k :: kl).length ≤ 1000) :
    TreeC (Elem fun stop => ⟨#[70, 117, 110, 99, 116, 105, 111, 110, 84, 121, 112, 101]⟩ :: (if (⟨#[70, 117, 110, 99, 116, 105, 111, 110, 84, 121, 112, 101]⟩ : ByteArray) = stop then [] else ((List.range ((k :: kl).length - 1)).map fun i => kk (1 + i) stop).flatten)) (.mk ⟨#[70, 117, 110, 99, 116, 105, 111, 110, 84, 121, 112, 101]⟩ text num (k :: kl)) := by
  intro kind' text' num' a n cap w h
  obtain ⟨ks', e, _, _, hn2, _⟩ := h.kids
  simp at e
  obtain ⟨rfl, rfl, rfl, rfl⟩ := e
  subst hn2
  exact to_FunctionTypeNil k kl kk h1 h2 (fun n hn' => by omega) _ _ _ _ _ _ h

theorem treeC_quals {t : NT} (hq : Quals t) (hn : t.kids.length ≤ 1000) : TreeC NilE t ∨ TreeC IfaceE t := by
  rcases hq with hq | ⟨hk, hq⟩
  · exact .inl (treeC_none hq)
  · refine .inr (fun kind text num a n cap w h => ?_)
    obtain ⟨ks, e, _⟩ := h.kids
    subst e
    have hk' : kind = ⟨#[81, 117, 97, 108, 105, 102, 105, 101, 114, 115]⟩ := hk
    subst hk'
    exact to_Qualifiers ks hq hn text num a n cap w h

/-- How many nodes. -/
def cnt : Nat → NT → Nat
  | 0, _ => 0
  | d + 1, .mk _ _ _ kids => 1 + (kids.map (cnt d)).sum

theorem cnt_pos {d : Nat} {t : NT} (h : Dep d t) : 1 ≤ cnt d t := by
  cases d with
  | zero => exact absurd h id
  | succ d => cases t; simp only [cnt]; omega

theorem cnt_kid {d : Nat} {kids : List NT} {k : NT} (hk : k ∈ kids) : cnt d k ≤ (kids.map (cnt d)).sum := by
  induction kids with
  | nil => simp at hk
  | cons x xs ih =>
    simp only [List.map_cons, List.sum_cons]
    rcases List.mem_cons.1 hk with rfl | hk
    · omega
    · have := ih hk; omega

theorem cnt_len {d : Nat} {kids : List NT} (h : ∀ k ∈ kids, Dep d k) : kids.length ≤ (kids.map (cnt d)).sum := by
  induction kids with
  | nil => simp
  | cons x xs ih =>
    simp only [List.map_cons, List.sum_cons, List.length_cons]
    have := cnt_pos (h x (by simp))
    have := ih (fun k hk => h k (List.mem_cons_of_mem _ hk))
    omega

theorem range_flat (g : NT → List ByteArray) (l : List NT) (f : Nat) : ((List.range (l.length - f)).map fun i => g (l.getD (f + i) default)).flatten = (l.drop f).flatMap g := by
  rw [List.flatMap_def]
  congr 1
  apply List.ext_getElem
  · simp
  · intro i h1 h2
    simp at h1
    simp [List.getD, show f + i < l.length by omega]

theorem kinds_eq {stop : ByteArray} {d : Nat} {kind text : ByteArray} {num : Int} {kids : List NT} (h0 : kind ≠ ⟨#[]⟩) (hq : kind ∉ qualK) :
    kindsN stop (d + 1) (.mk kind text num kids) = kind :: (if kind = stop then [] else kids.flatMap (kindsN stop d)) := by
  have : keptOf kind kids = kids := by
    unfold keptOf
    rw [if_neg]
    simp [qualK] at hq
    rintro (h | h)
    · exact hq.1 h
    · exact hq.2 h
  rw [kindsN, if_neg h0, this]

theorem kinds_qual {stop : ByteArray} {d : Nat} {kind text : ByteArray} {num : Int} {k l : NT} (hq : kind ∈ qualK) :
    kindsN stop (d + 1) (.mk kind text num [k, l]) = kind :: (if kind = stop then [] else kindsN stop d k) := by
  have h0 : kind ≠ ⟨#[]⟩ := by simp [qualK] at hq; rcases hq with rfl | rfl <;> simp
  have : keptOf kind [k, l] = [k] := by
    unfold keptOf
    rw [if_pos (by simpa [qualK] using hq)]
    rfl
  rw [kindsN, if_neg h0, this]
  simp

theorem treeOf_any (d : Nat) : ∀ t, Dep d t → Good t → cnt d t ≤ 200 → TreeC (Elem fun stop => kindsN stop d t) t := by
  induction d with
  | zero => intro t h; exact absurd h id
  | succ d ih =>
    intro t hd hg hc
    cases t with
    | mk kind text num kids =>
      have hds : ∀ k ∈ kids, Dep d k := hd
      have hcs : ∀ k ∈ kids, cnt d k ≤ 200 := fun k hk => by have := cnt_kid (d := d) hk; simp only [cnt] at hc; omega
      have hlen : kids.length ≤ 200 := by have := cnt_len hds; simp only [cnt] at hc; omega
      have go : ∀ k ∈ kids, Good k → TreeC (Elem fun stop => kindsN stop d k) k := fun k hk hg => ih k (hds k hk) hg (hcs k hk)
      have nq : ∀ K : List ByteArray, kind ∈ K → (∀ x ∈ K, x ≠ ⟨#[]⟩ ∧ x ∉ qualK) → kind ≠ ⟨#[]⟩ ∧ kind ∉ qualK := fun K h1 h2 => h2 kind h1
      cases hg with
      | leaf hk =>
        have hn := nq leafK hk (by simp [leafK, qualK])
        have e : (fun stop => kindsN stop (d + 1) (.mk kind text num [])) = fun stop => kind :: (if kind = stop then [] else []) := by funext stop; rw [kinds_eq hn.1 hn.2]; simp
        rw [e]; exact tc_leaf hk
      | @one _ _ _ k hk h1 =>
        have hn := nq oneK hk (by simp [oneK, qualK])
        have e : (fun stop => kindsN stop (d + 1) (.mk kind text num [k])) = fun stop => kind :: (if kind = stop then [] else kindsN stop d k) := by funext stop; rw [kinds_eq hn.1 hn.2]; simp
        rw [e]; exact tc_one (go k (by simp) h1) hk
      | @two _ _ _ k l hk h1 h2 =>
        have hn := nq twoK hk (by simp [twoK, qualK])
        have e : (fun stop => kindsN stop (d + 1) (.mk kind text num [k, l])) = fun stop => kind :: (if kind = stop then [] else kindsN stop d k ++ kindsN stop d l) := by funext stop; rw [kinds_eq hn.1 hn.2]; simp
        rw [e]; exact tc_two (go k (by simp) h1) (go l (by simp) h2) hk
      | @qual _ _ _ k l hk h1 h2 =>
        have e : (fun stop => kindsN stop (d + 1) (.mk kind text num [k, l])) = fun stop => kind :: (if kind = stop then [] else kindsN stop d k) := by funext stop; rw [kinds_qual hk]
        have hl : l.kids.length ≤ 1000 := by
          have h3 := hcs l (by simp)
          have h4 := hds l (by simp)
          cases d with
          | zero => exact absurd h4 id
          | succ d => cases l with | mk a b c ks => have := cnt_len (d := d) (show ∀ k ∈ ks, Dep d k from h4); simp only [cnt] at h3; show ks.length ≤ 1000; omega
        rw [e]
        rcases treeC_quals h2 hl with h | h
        · exact tc_qualNil (go k (by simp) h1) h hk
        · exact tc_qualSome (go k (by simp) h1) h hk
      | list hk h1 =>
        have hn := nq listK hk (by simp [listK, qualK])
        have e : (fun stop => kindsN stop (d + 1) (.mk kind text num kids)) = fun stop => kind :: (if kind = stop then [] else ((List.range (kids.length - 0)).map fun i => kindsN stop d (kids.getD (0 + i) default)).flatten) := by
          funext stop; rw [kinds_eq hn.1 hn.2, range_flat (kindsN stop d) kids 0]; simp
        rw [e]
        exact tc_list (kk := fun i stop => kindsN stop d (kids.getD i default)) (fun i _ hi => go _ (getD_mem hi) (h1 _ (getD_mem hi))) (by omega) hk
      | @tmpl _ _ _ k kl hk h1 h2 =>
        subst hk
        have e : (fun stop => kindsN stop (d + 1) (.mk ⟨#[84, 101, 109, 112, 108, 97, 116, 101]⟩ text num (k :: kl))) = fun stop => ⟨#[84, 101, 109, 112, 108, 97, 116, 101]⟩ :: (if (⟨#[84, 101, 109, 112, 108, 97, 116, 101]⟩ : ByteArray) = stop then [] else kindsN stop d k ++ ((List.range ((k :: kl).length - 1)).map fun i => kindsN stop d ((k :: kl).getD (1 + i) default)).flatten) := by
          funext stop; rw [kinds_eq (by simp) (by simp [qualK]), range_flat (kindsN stop d) (k :: kl) 1]; simp
        rw [e]
        exact tc_tmpl (kk := fun i stop => kindsN stop d ((k :: kl).getD i default)) (go k (by simp) h1) (fun i h0 hi => go _ (getD_mem hi) (by
          have : (k :: kl).getD i default ∈ kl := by
            cases i with
            | zero => omega
            | succ i => exact getD_mem (by simpa using hi)
          exact h2 _ this)) (by omega)
      | @func _ _ _ k kl hk h1 h2 =>
        subst hk
        have e : (fun stop => kindsN stop (d + 1) (.mk ⟨#[70, 117, 110, 99, 116, 105, 111, 110, 84, 121, 112, 101]⟩ text num (k :: kl))) = fun stop => ⟨#[70, 117, 110, 99, 116, 105, 111, 110, 84, 121, 112, 101]⟩ :: (if (⟨#[70, 117, 110, 99, 116, 105, 111, 110, 84, 121, 112, 101]⟩ : ByteArray) = stop then [] else kindsN stop d k ++ ((List.range ((k :: kl).length - 1)).map fun i => kindsN stop d ((k :: kl).getD (1 + i) default)).flatten) := by
          funext stop; rw [kinds_eq (by simp) (by simp [qualK]), range_flat (kindsN stop d) (k :: kl) 1]; simp
        rw [e]
        exact tc_func (kk := fun i stop => kindsN stop d ((k :: kl).getD i default)) (go k (by simp) h1) (fun i h0 hi => go _ (getD_mem hi) (by
          have : (k :: kl).getD i default ∈ kl := by
            cases i with
            | zero => omega
            | succ i => exact getD_mem (by simpa using hi)
          exact h2 _ this)) (by omega)
      | @proc _ _ _ k kl hk h1 h2 =>
        subst hk
        have hk0 : ∀ stop, kindsN stop d k = [] := by
          intro stop
          cases d with
          | zero => rfl
          | succ d => cases k with | mk a b c ks => have : a = ⟨#[]⟩ := h1; rw [kindsN, if_pos this]
        have e : (fun stop => kindsN stop (d + 1) (.mk ⟨#[70, 117, 110, 99, 116, 105, 111, 110, 84, 121, 112, 101]⟩ text num (k :: kl))) = fun stop => ⟨#[70, 117, 110, 99, 116, 105, 111, 110, 84, 121, 112, 101]⟩ :: (if (⟨#[70, 117, 110, 99, 116, 105, 111, 110, 84, 121, 112, 101]⟩ : ByteArray) = stop then [] else ((List.range ((k :: kl).length - 1)).map fun i => kindsN stop d ((k :: kl).getD (1 + i) default)).flatten) := by
          funext stop; rw [kinds_eq (by simp) (by simp [qualK]), range_flat (kindsN stop d) (k :: kl) 1]; simp [hk0]
        rw [e]
        exact tc_proc (kk := fun i stop => kindsN stop d ((k :: kl).getD i default)) (treeC_none h1) (fun i h0 hi => go _ (getD_mem hi) (by
          have : (k :: kl).getD i default ∈ kl := by
            cases i with
            | zero => omega
            | succ i => exact getD_mem (by simpa using hi)
          exact h2 _ this)) (by omega)

end Go.Proofs.YtdlhhdhooacogaaGreatDoor

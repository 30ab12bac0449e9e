/- PLAIN LAWS: what stands in all of the lists. -/
import Derived.Test.Qxb6605915aSets2
namespace Go.Proofs.Qxb6605915a.Strs
set_option linter.unusedVariables false

section
variable {α : Type} {cf : α → α → Int}

theorem strict_of (hc : TotCmp cf) {l : List α} (hs : l.Pairwise fun a b => cf a b ≤ 0) (hn : NoAdj l) : l.Pairwise fun a b => cf a b < 0 := by
  refine List.pairwise_iff_getElem.2 fun i j hi hj hij => ?_
  have h1 := List.pairwise_iff_getElem.1 hs i (i + 1) hi (by omega) (by omega)
  have hne := hn i l[i] (l[i + 1]'(by omega)) (List.getElem?_eq_getElem hi) (List.getElem?_eq_getElem (by omega))
  have h2 : cf l[i] (l[i + 1]'(by omega)) < 0 := by
    have : cf l[i] (l[i + 1]'(by omega)) ≠ 0 := fun e => hne (hc.eq0 _ _ e)
    omega
  by_cases e : i + 1 = j
  · subst e; exact h2
  · have h3 := List.pairwise_iff_getElem.1 hs (i + 1) j (by omega) hj (by omega)
    by_cases e2 : cf (l[i + 1]'(by omega)) l[j] = 0
    · rw [← hc.eq0 _ _ e2]; exact h2
    · exact hc.trans _ _ _ h2 (by omega)

theorem cnt_cons (x y : α) (l : List α) : cnt cf x (y :: l) = (if cf y x = 0 then 1 else 0) + cnt cf x l := by
  unfold cnt
  rw [List.filter_cons]
  by_cases h : cf y x = 0
  · simp [h]; omega
  · simp [h]

theorem cnt_le_one (hc : TotCmp cf) (x : α) : ∀ l : List α, (l.Pairwise fun a b => cf a b < 0) → cnt cf x l ≤ 1
  | [], _ => by simp [cnt]
  | y :: l, h => by
    obtain ⟨h1, h2⟩ := List.pairwise_cons.1 h
    rw [cnt_cons]
    by_cases e : cf y x = 0
    · rw [if_pos e]
      have hy := hc.eq0 y x e
      subst hy
      have := cnt_none (cf := cf) y l (fun z hz h0 => by have a1 := h1 z hz; have a2 := hc.anti y z; omega)
      omega
    · rw [if_neg e]
      have := cnt_le_one hc x l h2
      omega

theorem all_iff (hc : TotCmp cf) (x : α) : ∀ ll : List (List α), (∀ l, l ∈ ll → cnt cf x l ≤ 1) → cnt cf x ll.flatten ≤ ll.length ∧ (ll.length ≤ cnt cf x ll.flatten ↔ ∀ l, l ∈ ll → x ∈ l)
  | [], _ => by simp [cnt]
  | l :: ll, h => by
    obtain ⟨i1, i2⟩ := all_iff hc x ll (fun l' hl' => h l' (List.mem_cons_of_mem _ hl'))
    have hl := h l (List.mem_cons_self ..)
    have hp := cnt_pos hc x l
    rw [List.flatten_cons, cnt_append, List.length_cons]
    refine ⟨by omega, ⟨fun hh => ?_, fun hh => ?_⟩⟩
    · intro l' hl'
      rcases List.mem_cons.1 hl' with rfl | hl'
      · exact hp.1 (by omega)
      · exact i2.1 (by omega) l' hl'
    · have := hp.2 (hh l (List.mem_cons_self ..))
      have := i2.2 (fun l' hl' => hh l' (List.mem_cons_of_mem _ hl'))
      omega

theorem all_facts {le : α → α → Bool} (hc : TotCmp cf) (hle : ∀ a b, le a b = true → cf a b ≤ 0) (tl : TotLe le) {ll : List (List α)} {R : List α} {need : Nat} (hneed : need = ll.length) (hJ : JSet cf ll need R) (hNA : ∀ l, l ∈ ll.map (srtd le) → NoAdj l) :
    (∀ l, l ∈ ll.map (srtd le) → l.Pairwise fun a b => cf a b < 0) ∧ (ll.map (srtd le) = [] → R = []) ∧ (∀ x, x ∈ R → ∀ l, l ∈ ll.map (srtd le) → x ∈ l) ∧ (ll.map (srtd le) ≠ [] → ∀ x, (∀ l, l ∈ ll.map (srtd le) → x ∈ l) → x ∈ R) := by
  have hst : ∀ l, l ∈ ll.map (srtd le) → l.Pairwise fun a b => cf a b < 0 := by
    intro l hl
    refine strict_of hc ?_ (hNA l hl)
    obtain ⟨l0, _, rfl⟩ := List.mem_map.1 hl
    have hp := List.pairwise_mergeSort tl.trans tl.tot l0
    exact List.pairwise_iff_getElem.2 fun i j hi hj hij => hle _ _ (List.pairwise_iff_getElem.1 hp i j hi hj hij)
  have hone : ∀ x l, l ∈ ll → cnt cf x l ≤ 1 := by
    intro x l hl
    rw [← cnt_perm (srtd_perm le l)]
    exact cnt_le_one hc x _ (hst _ (List.mem_map.2 ⟨l, hl, rfl⟩))
  have hmem : ∀ x, (∀ l, l ∈ ll.map (srtd le) → x ∈ l) ↔ ∀ l, l ∈ ll → x ∈ l := by
    intro x
    constructor
    · intro h l hl
      exact (srtd_perm le l).mem_iff.1 (h _ (List.mem_map.2 ⟨l, hl, rfl⟩))
    · intro h l hl
      obtain ⟨l0, h0, rfl⟩ := List.mem_map.1 hl
      exact (srtd_perm le l0).mem_iff.2 (h l0 h0)
  subst hneed
  refine ⟨hst, ?_, ?_, ?_⟩
  · intro e
    have e2 : ll = [] := by simpa using e
    subst e2
    cases R with
    | nil => rfl
    | cons x R => have := ((hJ.2 x).1 (List.mem_cons_self ..)).1; simp at this
  · intro x hx
    exact (hmem x).2 ((all_iff hc x ll (hone x)).2.1 ((hJ.2 x).1 hx).2)
  · intro hne x hx
    have h1 := (hmem x).1 hx
    refine (hJ.2 x).2 ⟨?_, (all_iff hc x ll (hone x)).2.2 h1⟩
    cases ll with
    | nil => exact absurd rfl hne
    | cons l ll => exact List.mem_flatten.2 ⟨l, List.mem_cons_self .., h1 l (List.mem_cons_self ..)⟩

theorem any_facts (hc : TotCmp cf) {ll : List (List α)} {R : List α} (hJ : JSet cf ll 1 R) : (∀ l, l ∈ ll → ∀ x, x ∈ l → x ∈ R) ∧ ∀ x, x ∈ R → ∃ l, l ∈ ll ∧ x ∈ l := by
  refine ⟨fun l hl x hx => ?_, fun x hx => ?_⟩
  · have hm : x ∈ ll.flatten := List.mem_flatten.2 ⟨l, hl, hx⟩
    exact (hJ.2 x).2 ⟨hm, (cnt_pos hc x _).2 hm⟩
  · exact List.mem_flatten.1 ((hJ.2 x).1 hx).1
end

theorem int_le : ∀ (R l : List Int), (R.Pairwise fun a b => ci a b < 0) → (∀ x, x ∈ R → x ∈ l) → R.length ≤ l.length
  | [], l, _, _ => Nat.zero_le _
  | x :: R, l, h, hm => by
    obtain ⟨h1, h2⟩ := List.pairwise_cons.1 h
    have hx := hm x (List.mem_cons_self ..)
    have := int_le R (l.erase x) h2 (fun y hy => by
      have hne : y ≠ x := fun e => by subst e; have := h1 y hy; rw [totCi.refl] at this; omega
      exact (List.mem_erase_of_ne hne).2 (hm y (List.mem_cons_of_mem _ hy)))
    rw [List.length_erase_of_mem hx] at this
    have : 0 < l.length := List.length_pos_of_mem hx
    rw [List.length_cons]; omega

end Go.Proofs.Qxb6605915a.Strs

/- PLAIN LAWS: a sorted list's groups of equals. No Go in sight. -/
namespace Go.Proofs.Qxb6605915a.Strs

/-- a comparison that parts whatever two are not one -/
structure TotCmp {α : Type} (cf : α → α → Int) : Prop where
  refl : ∀ a, cf a a = 0
  eq0 : ∀ a b, cf a b = 0 → a = b
  anti : ∀ a b, cf b a = - cf a b
  trans : ∀ a b c, cf a b < 0 → cf b c < 0 → cf a c < 0

section
variable {α : Type} {cf : α → α → Int}

theorem TotCmp.trans_le (h : TotCmp cf) (a b c : α) (h1 : cf a b ≤ 0) (h2 : cf b c ≤ 0) : cf a c ≤ 0 := by
  by_cases e1 : cf a b = 0
  · rw [h.eq0 a b e1]; exact h2
  · by_cases e2 : cf b c = 0
    · rw [← h.eq0 b c e2]; exact h1
    · have := h.trans a b c (by omega) (by omega)
      omega

/-- how often x stands in l -/
def cnt (cf : α → α → Int) (x : α) (l : List α) : Nat := (l.filter fun y => cf y x == 0).length

theorem cnt_append (x : α) (a b : List α) : cnt cf x (a ++ b) = cnt cf x a + cnt cf x b := by simp [cnt]

theorem cnt_perm {x : α} {a b : List α} (h : a.Perm b) : cnt cf x a = cnt cf x b := (h.filter _).length_eq

theorem cnt_none (x : α) (l : List α) (h : ∀ y, y ∈ l → cf y x ≠ 0) : cnt cf x l = 0 := by
  unfold cnt
  rw [List.filter_eq_nil_iff.2]
  · rfl
  · intro y hy
    simpa using h y hy

theorem cnt_all (x : α) (l : List α) (h : ∀ y, y ∈ l → cf y x = 0) : cnt cf x l = l.length := by
  unfold cnt
  rw [List.filter_eq_self.2]
  intro y hy
  simpa using h y hy

theorem cnt_pos (hc : TotCmp cf) (x : α) (l : List α) : 1 ≤ cnt cf x l ↔ x ∈ l := by
  unfold cnt
  constructor
  · intro h
    obtain ⟨y, hy⟩ := List.exists_mem_of_length_pos (show 0 < (l.filter fun y => cf y x == 0).length by omega)
    have := List.mem_filter.1 hy
    have e := hc.eq0 y x (by simpa using this.2)
    rw [← e]; exact this.1
  · intro h
    exact List.length_pos_of_mem (List.mem_filter.2 ⟨h, by simp [hc.refl]⟩)

/-- not decreasing -/
def Srt (cf : α → α → Int) (L : List α) : Prop := L.Pairwise fun a b => cf a b ≤ 0

theorem srt_get {L : List α} (h : Srt cf L) (i j : Nat) (x y : α) (hij : i < j) (hx : L[i]? = some x) (hy : L[j]? = some y) : cf x y ≤ 0 := by
  obtain ⟨hi, rfl⟩ := List.getElem?_eq_some_iff.1 hx
  obtain ⟨hj, rfl⟩ := List.getElem?_eq_some_iff.1 hy
  exact List.pairwise_iff_getElem.1 h i j hi hj hij

/-- the groups up to i have been looked at -/
structure Grp (cf : α → α → Int) (L : List α) (need i : Nat) (R : List α) : Prop where
  inc : R.Pairwise fun a b => cf a b < 0
  mem : ∀ x, x ∈ R ↔ x ∈ L.take i ∧ need ≤ cnt cf x L
  bnd : ∀ x, x ∈ L.take i → ∀ y, y ∈ L.drop i → cf x y < 0
  le : R.length ≤ i

theorem grp_start (L : List α) (need : Nat) : Grp cf L need 0 [] := ⟨List.Pairwise.nil, by simp, by simp, by simp⟩

theorem mem_drop_get {L : List α} {j : Nat} {y : α} (h : y ∈ L.drop j) : ∃ t, j ≤ t ∧ L[t]? = some y := by
  obtain ⟨t, ht⟩ := List.getElem?_of_mem h
  rw [List.getElem?_drop] at ht
  exact ⟨j + t, by omega, ht⟩

theorem mem_take_get {L : List α} {j : Nat} {y : α} (h : y ∈ L.take j) : ∃ t, t < j ∧ L[t]? = some y := by
  obtain ⟨t, ht⟩ := List.getElem?_of_mem h
  rw [List.getElem?_take] at ht
  by_cases hj : t < j
  · exact ⟨t, hj, by simpa [hj] using ht⟩
  · simp [hj] at ht

theorem get_mem_take {L : List α} {j t : Nat} {y : α} (ht : t < j) (h : L[t]? = some y) : y ∈ L.take j := by
  apply List.mem_of_getElem? (i := t)
  rw [List.getElem?_take, if_pos ht]; exact h

theorem get_mem_drop {L : List α} {j t : Nat} {y : α} (ht : j ≤ t) (h : L[t]? = some y) : y ∈ L.drop j := by
  apply List.mem_of_getElem? (i := t - j)
  rw [List.getElem?_drop, show j + (t - j) = t by omega]; exact h

theorem grp_step (hc : TotCmp cf) {L R : List α} {need i j : Nat} {x : α} (h : Grp cf L need i R) (hs : Srt cf L) (hij : i < j) (hj : j ≤ L.length)
    (heq : ∀ t, i ≤ t → t < j → L[t]? = some x) (hne : ∀ y, L[j]? = some y → cf x y ≠ 0) :
    Grp cf L need j (if need ≤ j - i then R ++ [x] else R) := by
  have hxi := heq i (Nat.le_refl _) hij
  have hgt : ∀ t y, j ≤ t → L[t]? = some y → cf x y < 0 := by
    intro t y ht hy
    have hjl : j < L.length := by have := (List.getElem?_eq_some_iff.1 hy).1; omega
    have hz := List.getElem?_eq_getElem hjl
    have h1 := srt_get hs i j x L[j] hij hxi hz
    have h2 := hne L[j] hz
    by_cases e : t = j
    · subst e; rw [hz] at hy; cases hy; omega
    · have h3 := srt_get hs j t L[j] y (by omega) hz hy
      by_cases e2 : cf L[j] y = 0
      · rw [← hc.eq0 _ _ e2]; omega
      · exact hc.trans x L[j] y (by omega) (by omega)
  have hlt : ∀ y, y ∈ L.take i → cf y x < 0 := fun y hy => h.bnd y hy x (get_mem_drop (Nat.le_refl _) hxi)
  have hcnt : cnt cf x L = j - i := by
    have e : L = L.take i ++ ((L.take j).drop i ++ L.drop j) := by
      have h1 : L.take i = (L.take j).take i := by rw [List.take_take, Nat.min_eq_left (by omega)]
      rw [h1, ← List.append_assoc, List.take_append_drop, List.take_append_drop]
    rw [e, cnt_append, cnt_append, cnt_none, cnt_all, cnt_none]
    · rw [List.length_drop, List.length_take, Nat.min_eq_left hj]; omega
    · intro y hy
      obtain ⟨t, ht, hyt⟩ := mem_drop_get hy
      have := hgt t y ht hyt
      have := hc.anti x y
      omega
    · intro y hy
      obtain ⟨t, ht, hyt⟩ := mem_drop_get hy
      have htj : t < j := by
        have := (List.getElem?_eq_some_iff.1 hyt).1
        rw [List.length_take] at this; omega
      rw [List.getElem?_take, if_pos htj, heq t ht htj] at hyt
      cases hyt
      exact hc.refl x
    · intro y hy
      have := hlt y hy
      omega
  have hmemj : ∀ y, y ∈ L.take j ↔ y ∈ L.take i ∨ y = x := by
    intro y
    constructor
    · intro hy
      obtain ⟨t, ht, hyt⟩ := mem_take_get hy
      by_cases hti : t < i
      · exact Or.inl (get_mem_take hti hyt)
      · rw [heq t (by omega) ht] at hyt
        cases hyt
        exact Or.inr rfl
    · rintro (hy | rfl)
      · obtain ⟨t, ht, hyt⟩ := mem_take_get hy
        exact get_mem_take (by omega) hyt
      · exact get_mem_take hij hxi
  have hbnd : ∀ a, a ∈ L.take j → ∀ y, y ∈ L.drop j → cf a y < 0 := by
    intro a ha y hy
    obtain ⟨t, ht, hyt⟩ := mem_drop_get hy
    rcases (hmemj a).1 ha with ha | rfl
    · exact h.bnd a ha y (get_mem_drop (by omega) hyt)
    · exact hgt t y ht hyt
  split
  · rename_i hneed
    refine ⟨?_, ?_, hbnd, by have := h.le; simp; omega⟩
    · rw [List.pairwise_append]
      refine ⟨h.inc, by simp, ?_⟩
      intro a ha b hb
      simp only [List.mem_singleton] at hb
      subst hb
      exact hlt a ((h.mem a).1 ha).1
    · intro y
      rw [List.mem_append, List.mem_singleton, hmemj, h.mem]
      constructor
      · rintro (⟨h1, h2⟩ | rfl)
        · exact ⟨Or.inl h1, h2⟩
        · exact ⟨Or.inr rfl, by omega⟩
      · rintro ⟨h1 | rfl, h2⟩
        · exact Or.inl ⟨h1, h2⟩
        · exact Or.inr rfl
  · rename_i hneed
    refine ⟨h.inc, ?_, hbnd, by have := h.le; omega⟩
    intro y
    rw [hmemj, h.mem]
    constructor
    · rintro ⟨h1, h2⟩
      exact ⟨Or.inl h1, h2⟩
    · rintro ⟨h1 | rfl, h2⟩
      · exact ⟨h1, h2⟩
      · omega

end
end Go.Proofs.Qxb6605915a.Strs

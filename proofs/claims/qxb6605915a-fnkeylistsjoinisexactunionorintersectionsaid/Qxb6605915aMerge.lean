/- BOTTOM-UP MERGE SORT, the plain law: what a pass keeps. No Go in sight. -/
import Derived.KernelRfl
namespace Go.Proofs.Qxb6605915a.Strs
set_option linter.unusedVariables false

section
variable {α : Type} {le : α → α → Bool}

/-- sorted within each block of w -/
def Blk (le : α → α → Bool) (w : Nat) (L : List α) : Prop := ∀ i j x y, i < j → i / w = j / w → L[i]? = some x → L[j]? = some y → le x y = true

/-- the elements from i up to j -/
def seg (L : List α) (i j : Nat) : List α := (L.take j).drop i

theorem seg_get (L : List α) (i j k : Nat) : (seg L i j)[k]? = if i + k < j then L[i + k]? else none := by
  unfold seg
  rw [List.getElem?_drop, List.getElem?_take]

theorem seg_nil (L : List α) (i j : Nat) (h : j ≤ i) : seg L i j = [] := by
  unfold seg
  exact List.drop_eq_nil_of_le (by rw [List.length_take]; omega)

theorem seg_cons (L : List α) (i j : Nat) (x : α) (h : i < j) (hx : L[i]? = some x) : seg L i j = x :: seg L (i + 1) j := by
  refine List.ext_getElem? fun k => ?_
  rw [seg_get]
  cases k with
  | zero => rw [Nat.add_zero, if_pos h, hx]; rfl
  | succ k => rw [List.getElem?_cons_succ, seg_get, show i + (k + 1) = i + 1 + k by omega]

theorem seg_length (L : List α) (i j : Nat) (h : j ≤ L.length) : (seg L i j).length = j - i := by
  unfold seg
  rw [List.length_drop, List.length_take]; omega

theorem take_seg (L : List α) (i j : Nat) (h : i ≤ j) : L.take j = L.take i ++ seg L i j := by
  unfold seg
  have e : L.take i = (L.take j).take i := by rw [List.take_take, Nat.min_eq_left h]
  rw [e, List.take_append_drop]

theorem seg_append (L : List α) (i j k : Nat) (h : i ≤ j) (h2 : j ≤ k) : seg L i j ++ seg L j k = seg L i k := by
  have h1 := take_seg L i j h
  have h3 := take_seg L j k h2
  have h4 := take_seg L i k (Nat.le_trans h h2)
  rw [h3, h1, List.append_assoc] at h4
  exact List.append_cancel_left h4

/-- what merging the two segments still brings -/
def MInv (le : α → α → Bool) (A : List α) (lo mid hi : Nat) (E : List α) (i j : Nat) : Prop :=
  lo ≤ i ∧ i ≤ mid ∧ mid ≤ j ∧ j ≤ hi ∧ E.length + lo + mid = i + j ∧ E ++ List.merge (seg A i mid) (seg A j hi) le = List.merge (seg A lo mid) (seg A mid hi) le

theorem minv_start (A : List α) (lo mid hi : Nat) (h1 : lo ≤ mid) (h2 : mid ≤ hi) : MInv le A lo mid hi [] lo mid := ⟨Nat.le_refl _, h1, Nat.le_refl _, h2, by simp, rfl⟩

theorem minv_left {A : List α} {lo mid hi : Nat} {E : List α} {i j : Nat} {x : α} (h : MInv le A lo mid hi E i j) (hi' : i < mid) (hx : A[i]? = some x) (hc : hi ≤ j ∨ ∃ y, j < hi ∧ A[j]? = some y ∧ le x y = true) :
    MInv le A lo mid hi (E ++ [x]) (i + 1) j := by
  obtain ⟨g1, g2, g3, g4, g5, g6⟩ := h
  refine ⟨by omega, by omega, g3, g4, by simp; omega, ?_⟩
  rw [← g6, seg_cons A i mid x hi' hx, List.append_assoc]
  congr 1
  rcases hc with hc | ⟨y, hj, hy, hle⟩
  · rw [seg_nil A j hi hc, List.merge_right, List.merge_right]; rfl
  · rw [seg_cons A j hi y hj hy, List.cons_merge_cons, if_pos hle]; rfl

theorem minv_right {A : List α} {lo mid hi : Nat} {E : List α} {i j : Nat} {y : α} (h : MInv le A lo mid hi E i j) (hj : j < hi) (hy : A[j]? = some y) (hc : mid ≤ i ∨ ∃ x, i < mid ∧ A[i]? = some x ∧ le x y = false) :
    MInv le A lo mid hi (E ++ [y]) i (j + 1) := by
  obtain ⟨g1, g2, g3, g4, g5, g6⟩ := h
  refine ⟨g1, g2, by omega, by omega, by simp; omega, ?_⟩
  rw [← g6, seg_cons A j hi y hj hy, List.append_assoc]
  congr 1
  rcases hc with hc | ⟨x, hi', hx, hle⟩
  · rw [seg_nil A i mid hc, List.nil_merge, List.nil_merge]; rfl
  · rw [seg_cons A i mid x hi' hx, List.cons_merge_cons, if_neg (by rw [hle]; exact Bool.false_ne_true)]; rfl

theorem minv_end {A : List α} {lo mid hi : Nat} {E : List α} {i j : Nat} (h : MInv le A lo mid hi E i j) (hk : hi ≤ lo + E.length) : E = List.merge (seg A lo mid) (seg A mid hi) le := by
  obtain ⟨g1, g2, g3, g4, g5, g6⟩ := h
  rw [← g6, seg_nil A i mid (by omega), seg_nil A j hi (by omega)]
  simp

theorem blk_seg {w t lo hi : Nat} {A : List α} (h : Blk le w A) (hw : 0 < w) (hlo : lo = t * w) (hhi : hi ≤ lo + w) : (seg A lo hi).Pairwise fun a b => le a b = true := by
  refine List.pairwise_iff_getElem.2 fun i j h1 h2 hij => ?_
  have e1 := List.getElem?_eq_getElem h1
  have e2 := List.getElem?_eq_getElem h2
  rw [seg_get] at e1 e2
  by_cases c1 : lo + i < hi
  · by_cases c2 : lo + j < hi
    · rw [if_pos c1] at e1
      rw [if_pos c2] at e2
      refine h (lo + i) (lo + j) _ _ (by omega) ?_ e1 e2
      have q1 : (lo + i) / w = t := by
        rw [hlo, Nat.mul_comm, Nat.mul_add_div hw, Nat.div_eq_of_lt (by omega)]; omega
      have q2 : (lo + j) / w = t := by
        rw [hlo, Nat.mul_comm, Nat.mul_add_div hw, Nat.div_eq_of_lt (by omega)]; omega
      rw [q1, q2]
    · rw [if_neg c2] at e2; cases e2
  · rw [if_neg c1] at e1; cases e1

theorem blk_append {W t : Nat} {D E : List α} (hW : 0 < W) (hD : Blk le W D) (hl : D.length = t * W) (hE : E.Pairwise fun a b => le a b = true) : Blk le W (D ++ E) := by
  intro i j x y hij hd hx hy
  by_cases h1 : j < D.length
  · rw [List.getElem?_append_left (by omega)] at hx
    rw [List.getElem?_append_left h1] at hy
    exact hD i j x y hij hd hx hy
  · by_cases h2 : i < D.length
    · have q1 : i / W < t := (Nat.div_lt_iff_lt_mul hW).2 (by omega)
      have q2 : t ≤ j / W := (Nat.le_div_iff_mul_le hW).2 (by omega)
      omega
    · rw [List.getElem?_append_right (by omega)] at hx
      rw [List.getElem?_append_right (by omega)] at hy
      obtain ⟨k1, rfl⟩ := List.getElem?_eq_some_iff.1 hx
      obtain ⟨k2, rfl⟩ := List.getElem?_eq_some_iff.1 hy
      exact List.pairwise_iff_getElem.1 hE _ _ k1 k2 (by omega)

/-- what a pass keeps -/
structure PInv (le : α → α → Bool) (A : List α) (w lo : Nat) (D : List α) : Prop where
  mul : ∃ t, lo = t * (2 * w)
  perm : D.Perm (A.take lo)
  blk : Blk le (2 * w) D

theorem pinv_len {A D : List α} {w lo : Nat} (h : PInv le A w lo D) : D.length = min lo A.length := by rw [h.perm.length_eq, List.length_take]

theorem pinv_start (A : List α) (w : Nat) : PInv le A w 0 [] := ⟨⟨0, by simp⟩, by simp, fun i j x y _ _ hx => by simp at hx⟩

theorem pinv_step {A D : List α} {w lo mid hi : Nat} (ht : ∀ a b c, le a b = true → le b c = true → le a c = true) (htot : ∀ a b, (le a b || le b a) = true) (h : PInv le A w lo D) (hw : 0 < w) (hA : Blk le w A) (hlo : lo < A.length)
    (hm : mid = min (lo + w) A.length) (hh : hi = min (lo + 2 * w) A.length) :
    PInv le A w (lo + 2 * w) (D ++ List.merge (seg A lo mid) (seg A mid hi) le) := by
  obtain ⟨t, hl⟩ := h.mul
  have e2 : lo = (2 * t) * w := by rw [hl]; rw [Nat.mul_comm 2 t, Nat.mul_assoc]
  have e3 : lo + w = (2 * t + 1) * w := by rw [e2, Nat.add_mul, Nat.one_mul]
  have s1 : (seg A lo mid).Pairwise fun a b => le a b = true := blk_seg hA hw e2 (by omega)
  have s2 : (seg A mid hi).Pairwise fun a b => le a b = true := by
    by_cases c : lo + w ≤ A.length
    · have : mid = lo + w := by omega
      exact blk_seg hA hw (this.trans e3) (by omega)
    · rw [seg_nil A mid hi (by omega)]; exact List.Pairwise.nil
  have hE := List.pairwise_merge ht htot _ _ s1 s2
  have hp : (List.merge (seg A lo mid) (seg A mid hi) le).Perm (seg A lo hi) := by
    rw [← seg_append A lo mid hi (by omega) (by omega)]
    exact List.merge_perm_append le
  refine ⟨⟨t + 1, by rw [hl, Nat.add_mul, Nat.one_mul]⟩, ?_, ?_⟩
  · have e5 : A.take (lo + 2 * w) = A.take hi := by
      by_cases c : lo + 2 * w ≤ A.length
      · rw [hh, Nat.min_eq_left c]
      · rw [hh, Nat.min_eq_right (by omega), List.take_of_length_le (by omega), List.take_of_length_le (Nat.le_refl _)]
    rw [e5, take_seg A lo hi (by omega)]
    exact h.perm.append hp
  · exact blk_append (by omega) h.blk (by rw [pinv_len h, Nat.min_eq_left (by omega)]; exact hl) hE

theorem pinv_done {A D : List α} {w lo : Nat} (h : PInv le A w lo D) (hlo : A.length ≤ lo) : D.Perm A ∧ Blk le (2 * w) D := by
  refine ⟨?_, h.blk⟩
  have := h.perm
  rwa [List.take_of_length_le hlo] at this

theorem blk_one (A : List α) : Blk le 1 A := fun i j x y hij hd => by rw [Nat.div_one, Nat.div_one] at hd; omega

theorem blk_all {A : List α} {w : Nat} (h : Blk le w A) (hw : 0 < w) (hl : A.length ≤ w) : A.Pairwise fun a b => le a b = true := by
  have := blk_seg (lo := 0) (hi := A.length) (t := 0) h hw (by simp) (by omega)
  unfold seg at this
  simpa using this
end

end Go.Proofs.Qxb6605915a.Strs

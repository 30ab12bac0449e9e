/- FnTextSetIsSortedDistinctPackedSet: the walk -/
import Derived.Test.Qxb6605915aText
namespace Go.Proofs.Qxb6605915a.Strs
open Go.ChangeShapes Go.WideShapes Go.ChangeAt Go.RowKit
set_option linter.unusedVariables false

theorem size_le_tot {l : List ByteArray} {x : ByteArray} (h : x ∈ l) : x.size ≤ tot l := by
  obtain ⟨l1, l2, rfl⟩ := List.append_of_mem h
  have e : tot (x :: l2) = x.size + tot l2 := rfl
  rw [tot_append, e]
  omega

/-- a slice of one slice, laid in a new block -/
theorem sll_one {w : World} {a : Option Addr} {n c : Nat} {l : List ByteArray} (h : Sl Value.string w a n l) (hnil : a = none → l = [] ∧ c = 0) :
    Sll Value.string (w.alloc (.cells #[.slice a n c] 39)) (some ⟨w.heap.size, 0, none⟩) 1 [l] := by
  have hl := h.len
  refine ⟨rfl, ?_⟩
  intro j l' hl'
  have hj := (List.getElem?_eq_some_iff.1 hl').1
  have : j = 0 := by simp at hj; exact hj
  subst this
  simp at hl'
  subst hl'
  refine ⟨_, _, rfl, a, c, ?_, ?_, hnil⟩
  · rw [Lib.cell_of_heap (Deep.blk_alloc_new w (.cells #[.slice a n c] 39)), ← hl]; rfl
  · rw [← hl]; exact h.below ((Below.refl _ _).alloc (Nat.le_refl _) _)

set_option maxRecDepth 100000 in
set_option maxHeartbeats 2000000 in
theorem law5 (a : Option Addr) (n c : Nat) (l : List ByteArray) (w : World) (hn : n ≤ maxLen) (h : Sl Value.string w a n l) (hnil : a = none → n = 0) :
    Calls Try.prog 5 #[.slice a n c] w (SaysNew true w) := by
  have H := hide h
  have HN := hide hnil
  clear h hnil
  go_enter Try.func5, Try.ntmps5
  go_wp2_with fail
  refine (zzBytes33 a n c l w hn (unhide H)).mono ?_
  rintro _ _ ⟨r, rfl, rfl, hr⟩
  cases r
  · go_wp2
    go_ret
    exact ⟨rfl, Below.refl _ _⟩
  · have hb := hr rfl
    clear hr
    go_wp2_with fail
    refine (size34 a n c l _ hn (unhide H)).mono ?_
    rintro _ w ⟨t, rfl, rfl⟩
    by_cases ht : 1048576 < t
    · go_wp2
      go_ret
      exact ⟨rfl, Below.refl _ _⟩
    · go_wp2_with fail
      refine (copy35 a n c l w (by omega) (unhide H) (unhide HN)).mono ?_
      rintro _ w1 ⟨a1, n1, c1, rfl, hsl1, hb1, hnil1⟩
      have hn1 : n1 ≤ 1048576 := by rw [hsl1.len, ← (unhide H).len]; omega
      have HSL1 := hide hsl1
      have HN1 := hide hnil1
      have HB1 := hide hb1
      clear hsl1 hnil1 hb1
      go_wp2_with fail
      refine (zzText30 a1 n1 c1 l w1 (by omega) (by omega) (unhide HSL1) (unhide HN1)).mono ?_
      rintro _ w2 ⟨S, ea, en, ec, rfl, hse, hset, hb2⟩
      have hle := setOf_le hset
      have hen1 : en ≤ n1 := by rw [hse.len, endsOf_length, (unhide HSL1).len]; omega
      have hen2 : (en : Int) ≤ (n1 : Int) := by omega
      have HSE := hide hse
      have HSET := hide hset
      have HB2 := hide (((unhide HB1).trans (hb2.mono (unhide HB1).size)))
      have HSL2 := hide ((unhide HSL1).below hb2)
      clear hse hset hb2
      go_wp2_with fail
      refine (unpack24 S ea en ec n1 w2 (by omega) (by omega) (unhide HSE) hen2).mono ?_
      rintro _ w3 ⟨ga, gn, gc, rfl, hsg, hb3, _⟩
      have hgn : gn ≤ 1048576 := by rw [hsg.len]; have := (unhide HSL1).len; omega
      have HSG := hide hsg
      have HB3 := hide ((unhide HB2).trans (hb3.mono (unhide HB2).size))
      have HSL3 := hide ((unhide HSL2).below hb3)
      clear hsg hb3
      have hsl4 := sll_one (unhide HSL3) (unhide HN1)
      have HSL4 := hide hsl4
      have HSG4 := hide ((unhide HSG).below (((Below.refl _ w3).alloc (Nat.le_refl _) (.cells #[.slice a1 n1 c1] 39))))
      have HB4 : Hid (Below w.heap.size w (w3.alloc (.cells #[.slice a1 n1 c1] 39))) := (unhide HB3).alloc (unhide HB3).size _
      clear hsl4
      go_wp2_with fail
      refine (setAny28 ga gn gc _ 1 1 _ S [l] _ (by omega) (by omega) (unhide HSG4) (unhide HSL4) (unhide HSET).1 ?_ ?_ ?_ ?_).mono ?_
      · intro x hx
        have := size_le_tot hx
        unfold maxLen; omega
      · intro l' hl'
        simp at hl'
        subst hl'
        have := (unhide H).len
        omega
      · intro l' hl' x hx
        simp at hl'
        subst hl'
        exact ((unhide HSET).2 x).2 hx
      · intro x hx
        exact ⟨l, by simp, ((unhide HSET).2 x).1 hx⟩
      rintro _ w5 ⟨rfl, hb5⟩
      have HB5 := hide ((unhide HB4).trans (hb5.mono (unhide HB4).size))
      clear hb5
      go_wp2
      go_ret
      exact ⟨rfl, unhide HB5⟩

end Go.Proofs.Qxb6605915a.Strs

/- Rows.FnKeyListsJoinIsExactUnionOrIntersectionSaid: the row's step and the statement. After the guide's shell for a law over a slice. -/
import Derived.Test.Qxb6605915aLaw3
import Derived.Test.Qxb6605915aOpenI
import Derived.Test.Qxb6605915aFacts
import Derived.SliceStrings
namespace Go.Proofs.Qxb6605915a.fnKeyListsJoinIsExactUnionOrIntersection
open Go.ChangeShapes Go.WideShapes Go.ChangeAt Go.RowKit
open Facts (and_tt)
open Strs
set_option linter.unusedVariables false

/-! ### THE ROW's STEP -/
set_option maxRecDepth 100000 in
theorem lifted (os : Os) (started : os.Started) (H : Type) (enc : TypeId × Value → H) :
    ReturnsInHanded {} Try.checked os 3 .any (Rows.fnKeyListsJoinIsExactUnionOrIntersectionSpec.pre6 enc Try.prog Try.f3 Rows.fnKeyListsJoinIsExactUnionOrIntersectionRow.domain false) (Rows.fnKeyListsJoinIsExactUnionOrIntersectionSpec.post enc Try.prog Try.f3 false true false false) := by
  refine returnsInHanded_of_change (C := Try.checked) Facts.own started (by kernel_rfl) Try.func3
    (ChangeSpec.witness6 (enc := enc) (C := Try.checked) false ⟨#[], #[.slice none 0 0, .slice none 0 0, .slice none 0 0, .int .i64 0, .bool false], []⟩ 8 (by kernel_rfl) (by kernel_rfl) (by kernel_rfl) (by kernel_rfl)) ?_
  intro W base args ds gs before hval0 hW hcnd _
  have hval : ∀ (j : Nat) t v, Try.f3.params[j]? = some t → args[j]? = some v → Value.okWide Try.prog W .any base t v := hval0
  have hW' := hW
  obtain ⟨p, q, hA0, hV, rfl, hfz, hnd⟩ := hW
  have hA : DataW.TrodAll enc Try.prog W 0 (fun _ => true) true Try.f3.params.toList args.toList ds p := hA0
  rw [Try.params3] at hA hval
  obtain ⟨v0, vs0, d0, ds0, p0, q0, hargs, rfl, rfl, h0, r0⟩ := trodAll_cons hA
  obtain ⟨v1, vs1, d1, ds1, p1, q1, hargs1, rfl, rfl, h1, r1⟩ := trodAll_cons r0
  obtain ⟨v2, vs2, d2, ds2, p2, q2, hargs2, rfl, rfl, h2, r2⟩ := trodAll_cons r1
  obtain ⟨v3, vs3, d3, ds3, p3, q3, hargs3, rfl, rfl, h3, r3⟩ := trodAll_cons r2
  obtain ⟨v4, vs4, d4, ds4, p4, q4, hargs4, rfl, rfl, h4, r4⟩ := trodAll_cons r3
  obtain ⟨rfl, rfl, rfl⟩ := trodAll_nil r4
  obtain rfl : args = #[v0, v1, v2, v3, v4] := by cases args; simp_all
  obtain ⟨rfl, rfl⟩ := trodVars_none hV
  obtain ⟨a0, len0, cap0, rfl⟩ := okWide_slice Try.underlying22 (hval 0 22 v0 rfl rfl)
  obtain ⟨a1, len1, cap1, rfl⟩ := okWide_slice Try.underlying23 (hval 1 23 v1 rfl rfl)
  obtain ⟨a2, len2, cap2, rfl⟩ := okWide_slice Try.underlying23 (hval 2 23 v2 rfl rfl)
  obtain ⟨a3, rfl⟩ := okWide_int Try.underlying3 (hval 3 3 v3 rfl rfl)
  obtain ⟨a4, rfl⟩ := okWide_bool Try.underlying4 (hval 4 4 v4 rfl rfl)
  have k0 := h0
  have k1 := h1
  have k2 := h2
  have k3 := h3
  have k4 := h4
  have lt0 : ∀ x ∈ p0, x.block < W.heap.size := by obtain ⟨m, hm⟩ := k0; exact DataW.trod_lt m _ _ _ hm
  have lt1 : ∀ x ∈ p1, x.block < W.heap.size := by obtain ⟨m, hm⟩ := k1; exact DataW.trod_lt m _ _ _ hm
  have lt2 : ∀ x ∈ p2, x.block < W.heap.size := by obtain ⟨m, hm⟩ := k2; exact DataW.trod_lt m _ _ _ hm
  have lt3 : ∀ x ∈ p3, x.block < W.heap.size := by obtain ⟨m, hm⟩ := k3; exact DataW.trod_lt m _ _ _ hm
  have lt4 : ∀ x ∈ p4, x.block < W.heap.size := by obtain ⟨m, hm⟩ := k4; exact DataW.trod_lt m _ _ _ hm
  obtain ⟨l0, s0, n0, b0, c0⟩ : ∃ ll, Sll (Value.int .i64) W a0 len0 ll ∧ (a0 = none → len0 = 0) ∧ len0 ≤ maxLen ∧ ∀ l, l ∈ ll → l.length ≤ maxLen := by
    obtain ⟨fuel, hf⟩ := h0
    exact open_slli hf
  obtain ⟨l1, s1, n1, b1, c1⟩ : ∃ ll, Sll Value.string W a1 len1 ll ∧ (a1 = none → len1 = 0) ∧ len1 ≤ maxLen ∧ ∀ l, l ∈ ll → l.length ≤ maxLen := by
    obtain ⟨fuel, hf⟩ := h1
    exact open_sll hf
  obtain ⟨l2, s2, n2, b2, c2⟩ : ∃ ll, Sll Value.string W a2 len2 ll ∧ (a2 = none → len2 = 0) ∧ len2 ≤ maxLen ∧ ∀ l, l ∈ ll → l.length ≤ maxLen := by
    obtain ⟨fuel, hf⟩ := h2
    exact open_sll hf
  clear hA0 hval0
  refine (law3 a0 len0 cap0 l0 a1 len1 cap1 l1 a2 len2 cap2 l2 a3 a4 W b0 b1 b2 s0 s1 s2 c0 c1 c2 n0 n1 n2).mono fun e W' ⟨he, bel⟩ => ?_
  subst he
  exact ⟨_, rfl, _, _, _, [], _, [], hW', trodAll_mk1 (shut_bool Try.underlying4 _), (trodAll_cons_mk (Below.trod Facts.laidOut (by kernel_rfl) (of_decide_eq_true (by kernel_rfl)) k0 bel lt0) (trodAll_cons_mk (Below.trod Facts.laidOut (by kernel_rfl) (of_decide_eq_true (by kernel_rfl)) k1 bel lt1) (trodAll_cons_mk (Below.trod Facts.laidOut (by kernel_rfl) (of_decide_eq_true (by kernel_rfl)) k2 bel lt2) (trodAll_cons_mk (Below.trod Facts.laidOut (by kernel_rfl) (of_decide_eq_true (by kernel_rfl)) k3 bel lt3) (trodAll_cons_mk (Below.trod Facts.laidOut (by kernel_rfl) (of_decide_eq_true (by kernel_rfl)) k4 bel lt4) trodAll_mk0))))), rfl, bel.frame _, fun h => by cases h⟩

/-! ### THE CLOSED FACTS, a theorem each: in one declaration they outgrow the memory lid -/
set_option maxRecDepth 100000 in
theorem named : Try.prog.funcNamed Rows.fnKeyListsJoinIsExactUnionOrIntersectionRow.func = some 3 := by kernel_rfl
set_option maxRecDepth 100000 in
theorem inPlace : (Rows.fnKeyListsJoinIsExactUnionOrIntersectionRow.inPlace == Try.prog.inPlace 3) = true := by kernel_rfl
set_option maxRecDepth 100000 in
theorem unfollowed : (Rows.fnKeyListsJoinIsExactUnionOrIntersectionRow.unfollowed == Try.prog.unfollowed 3) = true := by kernel_rfl
set_option maxRecDepth 100000 in
theorem recurses : (Rows.fnKeyListsJoinIsExactUnionOrIntersectionRow.recurses == Try.prog.recurses 3) = true := by kernel_rfl
set_option maxRecDepth 100000 in
theorem varsNamed : (Rows.fnKeyListsJoinIsExactUnionOrIntersectionRow.named == Try.prog.varsNamed 3) = true := by kernel_rfl
set_option maxRecDepth 100000 in
theorem closed : joinedFacts Try.prog 3 Try.f3 Rows.fnKeyListsJoinIsExactUnionOrIntersectionSpec Rows.fnKeyListsJoinIsExactUnionOrIntersectionRow = true := by
  unfold joinedFacts
  refine and_tt (and_tt (and_tt (and_tt (and_tt (and_tt (and_tt (and_tt (and_tt (and_tt (and_tt (and_tt (and_tt (and_tt (and_tt (and_tt (and_tt (and_tt (and_tt (and_tt (and_tt (and_tt (and_tt (and_tt (and_tt (and_tt (and_tt (and_tt (and_tt (and_tt (and_tt ?_ Facts.laidOut) Facts.rowed) ?_) ?_) ?_) Facts.stops) ?_) Facts.knobs) inPlace) unfollowed) recurses) varsNamed) ?_) ?_) ?_) ?_) ?_) ?_) ?_) ?_) ?_) Facts.keys) ?_) Facts.heard) Facts.enter) Facts.lifts) Facts.make) ?_) ?_) ?_) ?_
  all_goals as_aux_lemma => kernel_rfl

theorem over : Rows.fnKeyListsJoinIsExactUnionOrIntersectionRow.holds Try.pinned (OpenSpec.ofChange Rows.fnKeyListsJoinIsExactUnionOrIntersectionSpec) :=
  OpenClaim.holds_of_wide 3 Try.f3 rfl rfl rfl rfl rfl rfl rfl ⟨rfl, rfl, rfl, rfl, rfl⟩ rfl rfl rfl rfl rfl named Try.func3 closed
    (of_decide_eq_true (by as_aux_lemma => kernel_rfl)) (by unfold Func.isWrapper; rw [if_neg (by decide +kernel)]; exact ⟨rfl, rfl⟩)
    (fun os started H enc _ => lifted os started H enc)

/-- THE STATEMENT -/
theorem proved : Rows.FnKeyListsJoinIsExactUnionOrIntersectionSaid :=
  over
#print axioms proved
end Go.Proofs.Qxb6605915a.fnKeyListsJoinIsExactUnionOrIntersection

/- Rows.FnKeyListsJoinAnyAgreesWithTextSetSaid: the row's step and the statement. After the guide's shell for a law over a slice. -/
import Derived.Test.Qxb6605915aLaw4
import Derived.Test.Qxb6605915aOpen
import Derived.Test.Qxb6605915aFacts
import Derived.SliceStrings
namespace Go.Proofs.Qxb6605915a.fnKeyListsJoinAnyAgreesWithTextSet
open Go.ChangeShapes Go.WideShapes Go.ChangeAt Go.RowKit
open Facts (and_tt)
open Strs
set_option linter.unusedVariables false

/-! ### THE ROW's STEP -/
set_option maxRecDepth 100000 in
theorem lifted (os : Os) (started : os.Started) (H : Type) (enc : TypeId × Value → H) :
    ReturnsInHanded {} Try.checked os 4 .any (Rows.fnKeyListsJoinAnyAgreesWithTextSetSpec.pre6 enc Try.prog Try.f4 Rows.fnKeyListsJoinAnyAgreesWithTextSetRow.domain false) (Rows.fnKeyListsJoinAnyAgreesWithTextSetSpec.post enc Try.prog Try.f4 false true false false) := by
  refine returnsInHanded_of_change (C := Try.checked) Facts.own started (by kernel_rfl) Try.func4
    (ChangeSpec.witness6 (enc := enc) (C := Try.checked) false ⟨#[], #[.slice none 0 0, .slice none 0 0, .int .i64 0], []⟩ 8 (by kernel_rfl) (by kernel_rfl) (by kernel_rfl) (by kernel_rfl)) ?_
  intro W base args ds gs before hval0 hW hcnd _
  have hval : ∀ (j : Nat) t v, Try.f4.params[j]? = some t → args[j]? = some v → Value.okWide Try.prog W .any base t v := hval0
  have hW' := hW
  obtain ⟨p, q, hA0, hV, rfl, hfz, hnd⟩ := hW
  have hA : DataW.TrodAll enc Try.prog W 0 (fun _ => true) true Try.f4.params.toList args.toList ds p := hA0
  rw [Try.params4] at hA hval
  obtain ⟨v0, vs0, d0, ds0, p0, q0, hargs, rfl, rfl, h0, r0⟩ := trodAll_cons hA
  obtain ⟨v1, vs1, d1, ds1, p1, q1, hargs1, rfl, rfl, h1, r1⟩ := trodAll_cons r0
  obtain ⟨v2, vs2, d2, ds2, p2, q2, hargs2, rfl, rfl, h2, r2⟩ := trodAll_cons r1
  obtain ⟨rfl, rfl, rfl⟩ := trodAll_nil r2
  obtain rfl : args = #[v0, v1, v2] := by cases args; simp_all
  obtain ⟨rfl, rfl⟩ := trodVars_none hV
  obtain ⟨a0, len0, cap0, rfl⟩ := okWide_slice Try.underlying23 (hval 0 23 v0 rfl rfl)
  obtain ⟨a1, len1, cap1, rfl⟩ := okWide_slice Try.underlying23 (hval 1 23 v1 rfl rfl)
  obtain ⟨a2, rfl⟩ := okWide_int Try.underlying3 (hval 2 3 v2 rfl rfl)
  have k0 := h0
  have k1 := h1
  have k2 := h2
  have lt0 : ∀ x ∈ p0, x.block < W.heap.size := by obtain ⟨m, hm⟩ := k0; exact DataW.trod_lt m _ _ _ hm
  have lt1 : ∀ x ∈ p1, x.block < W.heap.size := by obtain ⟨m, hm⟩ := k1; exact DataW.trod_lt m _ _ _ hm
  have lt2 : ∀ x ∈ p2, x.block < W.heap.size := by obtain ⟨m, hm⟩ := k2; exact DataW.trod_lt m _ _ _ hm
  obtain ⟨l0, s0, n0, b0, c0⟩ : ∃ ll, Sll Value.string W a0 len0 ll ∧ (a0 = none → len0 = 0) ∧ len0 ≤ maxLen ∧ ∀ l, l ∈ ll → l.length ≤ maxLen := by
    obtain ⟨fuel, hf⟩ := h0
    exact open_sll hf
  obtain ⟨l1, s1, n1, b1, c1⟩ : ∃ ll, Sll Value.string W a1 len1 ll ∧ (a1 = none → len1 = 0) ∧ len1 ≤ maxLen ∧ ∀ l, l ∈ ll → l.length ≤ maxLen := by
    obtain ⟨fuel, hf⟩ := h1
    exact open_sll hf
  clear hA0 hval0
  refine (law4 a0 len0 cap0 l0 a1 len1 cap1 l1 a2 W b0 b1 s0 s1 c0 c1 n0 n1).mono fun e W' ⟨he, bel⟩ => ?_
  subst he
  exact ⟨_, rfl, _, _, _, [], _, [], hW', trodAll_mk1 (shut_bool Try.underlying4 _), (trodAll_cons_mk (Below.trod Facts.laidOut (by kernel_rfl) (of_decide_eq_true (by kernel_rfl)) k0 bel lt0) (trodAll_cons_mk (Below.trod Facts.laidOut (by kernel_rfl) (of_decide_eq_true (by kernel_rfl)) k1 bel lt1) (trodAll_cons_mk (Below.trod Facts.laidOut (by kernel_rfl) (of_decide_eq_true (by kernel_rfl)) k2 bel lt2) trodAll_mk0))), rfl, bel.frame _, fun h => by cases h⟩

/-! ### THE CLOSED FACTS, a theorem each: in one declaration they outgrow the memory lid -/
set_option maxRecDepth 100000 in
theorem named : Try.prog.funcNamed Rows.fnKeyListsJoinAnyAgreesWithTextSetRow.func = some 4 := by kernel_rfl
set_option maxRecDepth 100000 in
theorem inPlace : (Rows.fnKeyListsJoinAnyAgreesWithTextSetRow.inPlace == Try.prog.inPlace 4) = true := by kernel_rfl
set_option maxRecDepth 100000 in
theorem unfollowed : (Rows.fnKeyListsJoinAnyAgreesWithTextSetRow.unfollowed == Try.prog.unfollowed 4) = true := by kernel_rfl
set_option maxRecDepth 100000 in
theorem recurses : (Rows.fnKeyListsJoinAnyAgreesWithTextSetRow.recurses == Try.prog.recurses 4) = true := by kernel_rfl
set_option maxRecDepth 100000 in
theorem varsNamed : (Rows.fnKeyListsJoinAnyAgreesWithTextSetRow.named == Try.prog.varsNamed 4) = true := by kernel_rfl
set_option maxRecDepth 100000 in
theorem closed : joinedFacts Try.prog 4 Try.f4 Rows.fnKeyListsJoinAnyAgreesWithTextSetSpec Rows.fnKeyListsJoinAnyAgreesWithTextSetRow = true := by
  unfold joinedFacts
  refine and_tt (and_tt (and_tt (and_tt (and_tt (and_tt (and_tt (and_tt (and_tt (and_tt (and_tt (and_tt (and_tt (and_tt (and_tt (and_tt (and_tt (and_tt (and_tt (and_tt (and_tt (and_tt (and_tt (and_tt (and_tt (and_tt (and_tt (and_tt (and_tt (and_tt (and_tt ?_ Facts.laidOut) Facts.rowed) ?_) ?_) ?_) Facts.stops) ?_) Facts.knobs) inPlace) unfollowed) recurses) varsNamed) ?_) ?_) ?_) ?_) ?_) ?_) ?_) ?_) ?_) Facts.keys) ?_) Facts.heard) Facts.enter) Facts.lifts) Facts.make) ?_) ?_) ?_) ?_
  all_goals as_aux_lemma => kernel_rfl

theorem over : Rows.fnKeyListsJoinAnyAgreesWithTextSetRow.holds Try.pinned (OpenSpec.ofChange Rows.fnKeyListsJoinAnyAgreesWithTextSetSpec) :=
  OpenClaim.holds_of_wide 4 Try.f4 rfl rfl rfl rfl rfl rfl rfl ⟨rfl, rfl, rfl, rfl, rfl⟩ rfl rfl rfl rfl rfl named Try.func4 closed
    (of_decide_eq_true (by as_aux_lemma => kernel_rfl)) (by unfold Func.isWrapper; rw [if_neg (by decide +kernel)]; exact ⟨rfl, rfl⟩)
    (fun os started H enc _ => lifted os started H enc)

/-- THE STATEMENT -/
theorem proved : Rows.FnKeyListsJoinAnyAgreesWithTextSetSaid :=
  over
#print axioms proved
end Go.Proofs.Qxb6605915a.fnKeyListsJoinAnyAgreesWithTextSet

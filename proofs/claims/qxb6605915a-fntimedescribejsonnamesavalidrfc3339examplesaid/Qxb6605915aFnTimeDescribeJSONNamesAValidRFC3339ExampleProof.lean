/-
  THE SHELL OF A PROOF OF 'Rows.FnTimeDescribeJSONNamesAValidRFC3339ExampleSaid' ('example.com/vouchlane/vouchlane/zzlaws_pkg_coupon_b1.FnTimeDescribeJSONNamesAValidRFC3339Example'), WRITTEN BY PROGRAM (proof-skeleton.mjs) off the guide's own print for that function. Not trusted: Lean checks it.
  YOURS ARE THE holeS MARKED 'hole' . ALL ELSE IS THE GUIDE's TEMPLATE (howto/template/XProofs.lean) at this function's number and types: leave it.
-/
import Derived.Test.Qxb6605915aRows
import Derived.WalkKit
import Derived.ProofKit
import Derived.OpenShut
import Derived.ShutString
import Derived.Test.Qxb6605915aFacts
import Derived.Test.Qxb6605915aTime
namespace Go.Proofs.Qxb6605915a.fnTimeDescribeJSONNamesAValidRFC3339Example
open Go.ChangeShapes Go.WideShapes Go.ChangeAt Go.RowKit
open Go.ChangeMaps (open_string shut_string)
open Facts (and_tt)
set_option linter.unusedVariables false      -- a walk need not use every 'w<i>' (that an integer argument fits its kind)

theorem own : ownKnob Try.prog.godebug = none := Facts.own

/-! ### STEP 1: THE WALK: the Go text returns true. 'Grown w w'': the world has at most new blocks (Derived/RowKit3.lean). Part the cases AHEAD of 'go_enter' where a test parts the walk; take each callee by a contract of your own. -/
theorem walk  (w : World) :
    Calls Try.prog 9 #[] w fun e w' => e = .returned (.bool true) ∧ Grown w w' := by
  exact Time.law w

/-! ### THE ROW's STEP: WRITTEN OUT: LEAVE IT -/
set_option maxRecDepth 100000 in
theorem lifted (os : Os) (started : os.Started) (H : Type) (enc : TypeId × Value → H) :
    ReturnsInHanded {} Try.checked os 9 .any (Rows.fnTimeDescribeJSONNamesAValidRFC3339ExampleSpec.pre6 enc Try.prog Try.f9 Rows.fnTimeDescribeJSONNamesAValidRFC3339ExampleRow.domain false) (Rows.fnTimeDescribeJSONNamesAValidRFC3339ExampleSpec.post enc Try.prog Try.f9 false true false false) := by
  refine returnsInHanded_of_change (C := Try.checked) own started (by kernel_rfl) Try.func9
    (ChangeSpec.witness6 (enc := enc) (C := Try.checked) false ⟨#[], #[], []⟩ 8 (by kernel_rfl) (by kernel_rfl) (by kernel_rfl) (by kernel_rfl)) ?_
  intro W base args ds gs before hval0 hW hcnd _
  have hval : ∀ (j : Nat) t v, Try.f9.params[j]? = some t → args[j]? = some v → Value.okWide Try.prog W .any base t v := hval0
  have hW' := hW
  obtain ⟨p, q, hA0, hV, rfl, hfz, hnd⟩ := hW
  have hA : DataW.TrodAll enc Try.prog W 0 (fun _ => true) true Try.f9.params.toList args.toList ds p := hA0
  rw [Try.params9] at hA hval
  obtain ⟨rfl, rfl, rfl⟩ := trodAll_none hA
  obtain ⟨rfl, rfl⟩ := trodVars_none hV
  clear hA0 hval0
  simp only [List.append_nil] at hW'
  refine (walk  W).mono fun e W' ⟨he, hg⟩ => ?_
  subst he
  exact ⟨_, rfl, post_of_same (pa := []) (pv := []) hW' (fun _ _ _ => (trodAll_cons_mk (shut_bool Try.underlying4 _) trodAll_mk0)) (fun sp _ => rfl) (fun _ _ => rfl) rfl
    (hg.frame _) hg.2.1 (ok_one (by kernel_rfl) rfl (okWide_bool_mk Try.underlying4 _))⟩

/-! ### THE CLOSED FACTS, a theorem each: in one declaration they outgrow the memory lid -/
set_option maxRecDepth 100000 in
theorem named : Try.prog.funcNamed Rows.fnTimeDescribeJSONNamesAValidRFC3339ExampleRow.func = some 9 := by kernel_rfl
set_option maxRecDepth 100000 in
theorem inPlace : (Rows.fnTimeDescribeJSONNamesAValidRFC3339ExampleRow.inPlace == Try.prog.inPlace 9) = true := by kernel_rfl
set_option maxRecDepth 100000 in
theorem unfollowed : (Rows.fnTimeDescribeJSONNamesAValidRFC3339ExampleRow.unfollowed == Try.prog.unfollowed 9) = true := by kernel_rfl
set_option maxRecDepth 100000 in
theorem recurses : (Rows.fnTimeDescribeJSONNamesAValidRFC3339ExampleRow.recurses == Try.prog.recurses 9) = true := by kernel_rfl
set_option maxRecDepth 100000 in
theorem varsNamed : (Rows.fnTimeDescribeJSONNamesAValidRFC3339ExampleRow.named == Try.prog.varsNamed 9) = true := by kernel_rfl
set_option maxRecDepth 100000 in
theorem closed : joinedFacts Try.prog 9 Try.f9 Rows.fnTimeDescribeJSONNamesAValidRFC3339ExampleSpec Rows.fnTimeDescribeJSONNamesAValidRFC3339ExampleRow = true := by
  unfold joinedFacts
  refine and_tt (and_tt (and_tt (and_tt (and_tt (and_tt (and_tt (and_tt (and_tt (and_tt (and_tt (and_tt (and_tt (and_tt (and_tt (and_tt (and_tt (and_tt (and_tt (and_tt (and_tt (and_tt (and_tt (and_tt (and_tt (and_tt (and_tt (and_tt (and_tt (and_tt (and_tt ?_ Facts.laidOut) Facts.rowed) ?_) ?_) ?_) Facts.stops) ?_) Facts.knobs) inPlace) unfollowed) recurses) varsNamed) ?_) ?_) ?_) ?_) ?_) ?_) ?_) ?_) ?_) Facts.keys) ?_) Facts.heard) Facts.enter) Facts.lifts) Facts.make) ?_) ?_) ?_) ?_
  all_goals as_aux_lemma => kernel_rfl

theorem over : Rows.fnTimeDescribeJSONNamesAValidRFC3339ExampleRow.holds Try.pinned (OpenSpec.ofChange Rows.fnTimeDescribeJSONNamesAValidRFC3339ExampleSpec) :=
  OpenClaim.holds_of_wide 9 Try.f9 rfl rfl rfl rfl rfl rfl rfl ⟨rfl, rfl, rfl, rfl, rfl⟩ rfl rfl rfl rfl rfl named Try.func9 closed
    (of_decide_eq_true (by as_aux_lemma => kernel_rfl)) (by unfold Func.isWrapper; rw [if_neg (by decide +kernel)]; exact ⟨rfl, rfl⟩)
    (fun os started H enc _ => lifted os started H enc)

/-- ████ THE STATEMENT ████ -/
theorem proved : Rows.FnTimeDescribeJSONNamesAValidRFC3339ExampleSaid :=
  over
#print axioms proved
end Go.Proofs.Qxb6605915a.fnTimeDescribeJSONNamesAValidRFC3339Example

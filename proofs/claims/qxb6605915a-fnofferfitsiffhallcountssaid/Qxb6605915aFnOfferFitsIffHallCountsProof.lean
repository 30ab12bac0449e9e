/-
  THE SHELL OF A PROOF OF 'Rows.FnOfferFitsIffHallCountsSaid' ('example.com/vouchlane/vouchlane/zzlaws_pkg_coupon_b1.FnOfferFitsIffHallCounts'), WRITTEN BY PROGRAM (proof-skeleton.mjs) off the guide's own print for that function. Not trusted: Lean checks it.
  YOURS ARE THE holeS MARKED 'hole' . ALL ELSE IS THE GUIDE's TEMPLATE (howto/template/XProofs.lean) at this function's number and types: leave it.
-/
import Derived.Test.Qxb6605915aRows
import Derived.WalkKit
import Derived.ProofKit
import Derived.OpenShut
import Derived.ShutString
import Derived.Test.Qxb6605915aFacts
import Derived.Test.Qxb6605915aOffer
namespace Go.Proofs.Qxb6605915a.fnOfferFitsIffHallCounts
open Go.ChangeShapes Go.WideShapes Go.ChangeAt Go.RowKit
open Go.ChangeMaps (open_string shut_string)
open Offer
open Facts (and_tt)
set_option linter.unusedVariables false      -- a walk need not use every 'w<i>' (that an integer argument fits its kind)

theorem own : ownKnob Try.prog.godebug = none := Facts.own

/-! ### STEP 1: THE WALK: the Go text returns true. 'Grown w w'': the world has at most new blocks (Derived/RowKit3.lean). Part the cases AHEAD of 'go_enter' where a test parts the walk; take each callee by a contract of your own. -/
theorem walk (a0 : Int) (a1 : Int) (a2 : Int) (a3 : Int) (a4 : Int) (a5 : Int) (w0 : (Lit.int .i64 a0).wf = true) (w1 : (Lit.int .i64 a1).wf = true) (w2 : (Lit.int .i64 a2).wf = true) (w3 : (Lit.int .i64 a3).wf = true) (w4 : (Lit.int .i64 a4).wf = true) (w5 : (Lit.int .i64 a5).wf = true) (w : World) :
    Calls Try.prog 7 #[.int .i64 a0, .int .i64 a1, .int .i64 a2, .int .i64 a3, .int .i64 a4, .int .i64 a5] w fun e w' => e = .returned (.bool true) ∧ Grown w w' := by
  cases hd : inDom a0 a1 a2 a3 a4 a5
  · have HD := hide hd
    clear hd
    go_enter Try.func7, Try.ntmps7
    go_wp2_with fail
    refine (indom_is false a0 a1 a2 a3 a4 a5 _ HD).mono ?_
    rintro _ _ ⟨rfl, rfl⟩
    go_wp2
    go_ret
    exact ⟨rfl, Grown.refl _⟩
  · obtain ⟨b0, g0, n0, h1, h2, h3, h4, h5, h6, hb0, hb1, hg0, hg1⟩ := dom_facts hd
    have HD := hide hd
    have hf := fits_iff a0 a1 a2 a3 a4 a5 h5
    clear hd
    by_cases c1 : a2 * a1 ≤ a4 + a5
    · by_cases c2 : a2 * a0 ≤ a3 + a5
      · by_cases c3 : a2 * a0 + a2 * a1 ≤ a3 + a4 + a5
        · have HF : Hid (fitsB a0 a1 a2 a3 a4 a5 = true) := by rw [hf]; exact decide_eq_true (by omega)
          clear hf
          go_enter Try.func7, Try.ntmps7
          go_wp2_with fail
          refine (indom_is true a0 a1 a2 a3 a4 a5 _ HD).mono ?_
          rintro _ _ ⟨rfl, rfl⟩
          go_wp2_with fail
          refine (fits_is true a0 a1 a2 a3 a4 a5 _ HF hb0 hb1 hg0 hg1 h1 h2 h3 h4 h5 h6).mono ?_
          rintro _ w1 ⟨rfl, hg⟩
          go_wp2
          go_ret
          exact ⟨rfl, hg⟩
        · have HF : Hid (fitsB a0 a1 a2 a3 a4 a5 = false) := by rw [hf]; exact decide_eq_false (by omega)
          clear hf
          go_enter Try.func7, Try.ntmps7
          go_wp2_with fail
          refine (indom_is true a0 a1 a2 a3 a4 a5 _ HD).mono ?_
          rintro _ _ ⟨rfl, rfl⟩
          go_wp2_with fail
          refine (fits_is false a0 a1 a2 a3 a4 a5 _ HF hb0 hb1 hg0 hg1 h1 h2 h3 h4 h5 h6).mono ?_
          rintro _ w1 ⟨rfl, hg⟩
          go_wp2
          go_ret
          exact ⟨ret_bool (by simp; omega), hg⟩
      · have HF : Hid (fitsB a0 a1 a2 a3 a4 a5 = false) := by rw [hf]; exact decide_eq_false (by omega)
        clear hf
        go_enter Try.func7, Try.ntmps7
        go_wp2_with fail
        refine (indom_is true a0 a1 a2 a3 a4 a5 _ HD).mono ?_
        rintro _ _ ⟨rfl, rfl⟩
        go_wp2_with fail
        refine (fits_is false a0 a1 a2 a3 a4 a5 _ HF hb0 hb1 hg0 hg1 h1 h2 h3 h4 h5 h6).mono ?_
        rintro _ w1 ⟨rfl, hg⟩
        go_wp2
        go_ret
        exact ⟨rfl, hg⟩
    · have HF : Hid (fitsB a0 a1 a2 a3 a4 a5 = false) := by rw [hf]; exact decide_eq_false (by omega)
      clear hf
      go_enter Try.func7, Try.ntmps7
      go_wp2_with fail
      refine (indom_is true a0 a1 a2 a3 a4 a5 _ HD).mono ?_
      rintro _ _ ⟨rfl, rfl⟩
      go_wp2_with fail
      refine (fits_is false a0 a1 a2 a3 a4 a5 _ HF hb0 hb1 hg0 hg1 h1 h2 h3 h4 h5 h6).mono ?_
      rintro _ w1 ⟨rfl, hg⟩
      go_wp2
      go_ret
      exact ⟨rfl, hg⟩

/-! ### THE ROW's STEP: WRITTEN OUT: LEAVE IT -/
set_option maxRecDepth 100000 in
theorem lifted (os : Os) (started : os.Started) (H : Type) (enc : TypeId × Value → H) :
    ReturnsInHanded {} Try.checked os 7 .any (Rows.fnOfferFitsIffHallCountsSpec.pre6 enc Try.prog Try.f7 Rows.fnOfferFitsIffHallCountsRow.domain false) (Rows.fnOfferFitsIffHallCountsSpec.post enc Try.prog Try.f7 false true false false) := by
  refine returnsInHanded_of_change (C := Try.checked) own started (by kernel_rfl) Try.func7
    (ChangeSpec.witness6 (enc := enc) (C := Try.checked) false ⟨#[], #[.int .i64 0, .int .i64 0, .int .i64 0, .int .i64 0, .int .i64 0, .int .i64 0], []⟩ 8 (by kernel_rfl) (by kernel_rfl) (by kernel_rfl) (by kernel_rfl)) ?_
  intro W base args ds gs before hval0 hW hcnd _
  have hval : ∀ (j : Nat) t v, Try.f7.params[j]? = some t → args[j]? = some v → Value.okWide Try.prog W .any base t v := hval0
  have hW' := hW
  obtain ⟨p, q, hA0, hV, rfl, hfz, hnd⟩ := hW
  have hA : DataW.TrodAll enc Try.prog W 0 (fun _ => true) true Try.f7.params.toList args.toList ds p := hA0
  rw [Try.params7] at hA hval
  obtain ⟨v0, vs0, d0, ds0, p0, q0, hargs, rfl, rfl, h0, r0⟩ := trodAll_cons hA
  obtain ⟨v1, vs1, d1, ds1, p1, q1, rfl, rfl, rfl, h1, r1⟩ := trodAll_cons r0
  obtain ⟨v2, vs2, d2, ds2, p2, q2, rfl, rfl, rfl, h2, r2⟩ := trodAll_cons r1
  obtain ⟨v3, vs3, d3, ds3, p3, q3, rfl, rfl, rfl, h3, r3⟩ := trodAll_cons r2
  obtain ⟨v4, vs4, d4, ds4, p4, q4, rfl, rfl, rfl, h4, r4⟩ := trodAll_cons r3
  obtain ⟨v5, vs5, d5, ds5, p5, q5, rfl, rfl, rfl, h5, r5⟩ := trodAll_cons r4
  obtain ⟨rfl, rfl, rfl⟩ := trodAll_nil r5
  obtain rfl : args = #[v0, v1, v2, v3, v4, v5] := by cases args; simp_all
  obtain ⟨rfl, rfl⟩ := trodVars_none hV
  obtain ⟨a0, rfl, rfl, rfl, w0⟩ := open_int Try.underlying2 (hval 0 2 v0 rfl rfl) h0
  obtain ⟨a1, rfl, rfl, rfl, w1⟩ := open_int Try.underlying2 (hval 1 2 v1 rfl rfl) h1
  obtain ⟨a2, rfl, rfl, rfl, w2⟩ := open_int Try.underlying2 (hval 2 2 v2 rfl rfl) h2
  obtain ⟨a3, rfl, rfl, rfl, w3⟩ := open_int Try.underlying2 (hval 3 2 v3 rfl rfl) h3
  obtain ⟨a4, rfl, rfl, rfl, w4⟩ := open_int Try.underlying2 (hval 4 2 v4 rfl rfl) h4
  obtain ⟨a5, rfl, rfl, rfl, w5⟩ := open_int Try.underlying2 (hval 5 2 v5 rfl rfl) h5
  clear hA0 hval0
  simp only [List.append_nil] at hW'
  refine (walk a0 a1 a2 a3 a4 a5 w0 w1 w2 w3 w4 w5 W).mono fun e W' ⟨he, hg⟩ => ?_
  subst he
  exact ⟨_, rfl, post_of_same (pa := []) (pv := []) hW' (fun _ _ _ => (trodAll_cons_mk (shut_bool Try.underlying4 _) trodAll_mk0)) (fun sp _ => (trodAll_cons_mk (shut_int Try.underlying2 w0) (trodAll_cons_mk (shut_int Try.underlying2 w1) (trodAll_cons_mk (shut_int Try.underlying2 w2) (trodAll_cons_mk (shut_int Try.underlying2 w3) (trodAll_cons_mk (shut_int Try.underlying2 w4) (trodAll_cons_mk (shut_int Try.underlying2 w5) trodAll_mk0))))))) (fun _ _ => rfl) rfl
    (hg.frame _) hg.2.1 (ok_one (by kernel_rfl) rfl (okWide_bool_mk Try.underlying4 _))⟩

/-! ### THE CLOSED FACTS, a theorem each: in one declaration they outgrow the memory lid -/
set_option maxRecDepth 100000 in
theorem named : Try.prog.funcNamed Rows.fnOfferFitsIffHallCountsRow.func = some 7 := by kernel_rfl
set_option maxRecDepth 100000 in
theorem inPlace : (Rows.fnOfferFitsIffHallCountsRow.inPlace == Try.prog.inPlace 7) = true := by kernel_rfl
set_option maxRecDepth 100000 in
theorem unfollowed : (Rows.fnOfferFitsIffHallCountsRow.unfollowed == Try.prog.unfollowed 7) = true := by kernel_rfl
set_option maxRecDepth 100000 in
theorem recurses : (Rows.fnOfferFitsIffHallCountsRow.recurses == Try.prog.recurses 7) = true := by kernel_rfl
set_option maxRecDepth 100000 in
theorem varsNamed : (Rows.fnOfferFitsIffHallCountsRow.named == Try.prog.varsNamed 7) = true := by kernel_rfl
set_option maxRecDepth 100000 in
theorem closed : joinedFacts Try.prog 7 Try.f7 Rows.fnOfferFitsIffHallCountsSpec Rows.fnOfferFitsIffHallCountsRow = true := by
  unfold joinedFacts
  refine and_tt (and_tt (and_tt (and_tt (and_tt (and_tt (and_tt (and_tt (and_tt (and_tt (and_tt (and_tt (and_tt (and_tt (and_tt (and_tt (and_tt (and_tt (and_tt (and_tt (and_tt (and_tt (and_tt (and_tt (and_tt (and_tt (and_tt (and_tt (and_tt (and_tt (and_tt ?_ Facts.laidOut) Facts.rowed) ?_) ?_) ?_) Facts.stops) ?_) Facts.knobs) inPlace) unfollowed) recurses) varsNamed) ?_) ?_) ?_) ?_) ?_) ?_) ?_) ?_) ?_) Facts.keys) ?_) Facts.heard) Facts.enter) Facts.lifts) Facts.make) ?_) ?_) ?_) ?_
  all_goals as_aux_lemma => kernel_rfl

theorem over : Rows.fnOfferFitsIffHallCountsRow.holds Try.pinned (OpenSpec.ofChange Rows.fnOfferFitsIffHallCountsSpec) :=
  OpenClaim.holds_of_wide 7 Try.f7 rfl rfl rfl rfl rfl rfl rfl ⟨rfl, rfl, rfl, rfl, rfl⟩ rfl rfl rfl rfl rfl named Try.func7 closed
    (of_decide_eq_true (by as_aux_lemma => kernel_rfl)) (by unfold Func.isWrapper; rw [if_neg (by decide +kernel)]; exact ⟨rfl, rfl⟩)
    (fun os started H enc _ => lifted os started H enc)

/-- ████ THE STATEMENT ████ -/
theorem proved : Rows.FnOfferFitsIffHallCountsSaid :=
  over
#print axioms proved
end Go.Proofs.Qxb6605915a.fnOfferFitsIffHallCounts

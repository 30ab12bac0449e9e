/- Rows.FnLearnWriteExactSaid: the row's step and the statement. After the guide's shell for a law over a slice. -/
import Derived.Test.Qxb6605773aLaw
import Derived.Test.Qxb6605773aOpen
import Derived.Test.Qxb6605773aFacts
import Derived.SliceStrings
namespace Go.Proofs.Qxb6605773a.fnLearnWriteExact
open Go.ChangeShapes Go.WideShapes Go.ChangeAt Go.RowKit
open Facts (and_tt)
open Lw
set_option linter.unusedVariables false

/-! ### THE ROW's STEP -/
set_option maxRecDepth 100000 in
theorem lifted (os : Os) (started : os.Started) (H : Type) (enc : TypeId × Value → H) :
    ReturnsInHanded {} Try.checked os 6 .any (Rows.fnLearnWriteExactSpec.pre6 enc Try.prog Try.f6 Rows.fnLearnWriteExactRow.domain false) (Rows.fnLearnWriteExactSpec.post enc Try.prog Try.f6 false true false false) := by
  refine returnsInHanded_of_change (C := Try.checked) Facts.own started (by kernel_rfl) Try.func6
    (ChangeSpec.witness6 (enc := enc) (C := Try.checked) false ⟨#[], #[.slice none 0 0, .int .i64 0, .slice none 0 0, .agg #[.string ByteArray.empty, .int .i64 0, .slice none 0 0, .int .i64 0, .int .i64 0, .string ByteArray.empty, .int .i64 0, .slice none 0 0]], []⟩ 8 (by kernel_rfl) (by kernel_rfl) (by kernel_rfl) (by kernel_rfl)) ?_
  intro W base args ds gs before hval0 hW hcnd _
  have hval : ∀ (j : Nat) t v, Try.f6.params[j]? = some t → args[j]? = some v → Value.okWide Try.prog W .any base t v := hval0
  have hW' := hW
  obtain ⟨p, q, hA0, hV, rfl, hfz, hnd⟩ := hW
  have hA : DataW.TrodAll enc Try.prog W 0 (fun _ => true) true Try.f6.params.toList args.toList ds p := hA0
  rw [Try.params6] at hA hval
  obtain ⟨v0, vs0, d0, ds0, p0, q0, hargs, rfl, rfl, h0, r0⟩ := trodAll_cons hA
  obtain ⟨v1, vs1, d1, ds1, p1, q1, hargs1, rfl, rfl, h1, r1⟩ := trodAll_cons r0
  obtain ⟨v2, vs2, d2, ds2, p2, q2, hargs2, rfl, rfl, h2, r2⟩ := trodAll_cons r1
  obtain ⟨v3, vs3, d3, ds3, p3, q3, hargs3, rfl, rfl, h3, r3⟩ := trodAll_cons r2
  obtain ⟨rfl, rfl, rfl⟩ := trodAll_nil r3
  obtain rfl : args = #[v0, v1, v2, v3] := by cases args; simp_all
  obtain ⟨rfl, rfl⟩ := trodVars_none hV
  obtain ⟨a0, len0, cap0, rfl⟩ := okWide_slice Try.underlying49 (hval 0 49 v0 rfl rfl)
  obtain ⟨a1, rfl⟩ := okWide_int Try.underlying3 (hval 1 3 v1 rfl rfl)
  obtain ⟨a2, len2, cap2, rfl⟩ := okWide_slice Try.underlying50 (hval 2 50 v2 rfl rfl)
  obtain ⟨cs, rfl, _⟩ := okWide_struct Try.underlying52 (hval 3 52 v3 rfl rfl)
  have k0 := h0
  have k1 := h1
  have k2 := h2
  have k3 := h3
  have lt0 : ∀ x ∈ p0, x.block < W.heap.size := by obtain ⟨m, hm⟩ := k0; exact DataW.trod_lt m _ _ _ hm
  have lt1 : ∀ x ∈ p1, x.block < W.heap.size := by obtain ⟨m, hm⟩ := k1; exact DataW.trod_lt m _ _ _ hm
  have lt2 : ∀ x ∈ p2, x.block < W.heap.size := by obtain ⟨m, hm⟩ := k2; exact DataW.trod_lt m _ _ _ hm
  have lt3 : ∀ x ∈ p3, x.block < W.heap.size := by obtain ⟨m, hm⟩ := k3; exact DataW.trod_lt m _ _ _ hm
  obtain ⟨fuel0, hf0⟩ := h0
  obtain ⟨b0, n0, c0, S, e0, s0, nil0, m0, z0⟩ := open_strs hf0
  obtain ⟨fuel2, hf2⟩ := h2
  obtain ⟨b2, n2, c2, Tf, PA, PN, PC, L, e2, s2, m2, z2⟩ := open_seen hf2
  obtain ⟨fuel3, hf3⟩ := h3
  obtain ⟨ky, op, va, vn, vc, vl, dl, T, site, pr, pa, pn, pc, pl, e3, zk, zs, sv, mv, nv, sp, mp, np⟩ := open_write hf3
  obtain ⟨rfl, rfl, rfl⟩ : a0 = b0 ∧ len0 = n0 ∧ cap0 = c0 := by simpa [Value.cells] using e0
  obtain ⟨rfl, rfl, rfl⟩ : a2 = b2 ∧ len2 = n2 ∧ cap2 = c2 := by simpa [Value.cells] using e2
  have e3' : cs.toList = _ := e3
  obtain rfl : cs = #[.string ky, .int .i64 op, .slice va vn vc, .int .i64 dl, .int .i64 T, .string site, .int .i64 pr, .slice pa pn pc] := by
    cases cs
    simp only at e3'
    rw [e3']
  clear hA0 hval0 e0 e2 e3 e3' hf0 hf2 hf3
  refine (law6 a0 len0 cap0 S a1 a2 len2 cap2 Tf PA PN PC L ky op va vn vc vl dl T site pr pa pn pc pl W m0 m2 s0 nil0 z0 s2 z2 zk zs sv mv nv sp mp np).mono fun e W' ⟨he, bel⟩ => ?_
  subst he
  exact ⟨_, rfl, _, _, _, [], _, [], hW', trodAll_mk1 (shut_bool Try.underlying4 _), (trodAll_cons_mk (Below.trod Facts.laidOut (by kernel_rfl) (of_decide_eq_true (by kernel_rfl)) k0 bel lt0) (trodAll_cons_mk (Below.trod Facts.laidOut (by kernel_rfl) (of_decide_eq_true (by kernel_rfl)) k1 bel lt1) (trodAll_cons_mk (Below.trod Facts.laidOut (by kernel_rfl) (of_decide_eq_true (by kernel_rfl)) k2 bel lt2) (trodAll_cons_mk (Below.trod Facts.laidOut (by kernel_rfl) (of_decide_eq_true (by kernel_rfl)) k3 bel lt3) trodAll_mk0)))), rfl, bel.frame _, fun h => by cases h⟩

/-! ### THE CLOSED FACTS, a theorem each: in one declaration they outgrow the memory lid -/
set_option maxRecDepth 100000 in
theorem named : Try.prog.funcNamed Rows.fnLearnWriteExactRow.func = some 6 := by kernel_rfl
set_option maxRecDepth 100000 in
theorem inPlace : (Rows.fnLearnWriteExactRow.inPlace == Try.prog.inPlace 6) = true := by kernel_rfl
set_option maxRecDepth 100000 in
theorem unfollowed : (Rows.fnLearnWriteExactRow.unfollowed == Try.prog.unfollowed 6) = true := by kernel_rfl
set_option maxRecDepth 100000 in
theorem recurses : (Rows.fnLearnWriteExactRow.recurses == Try.prog.recurses 6) = true := by kernel_rfl
set_option maxRecDepth 100000 in
theorem varsNamed : (Rows.fnLearnWriteExactRow.named == Try.prog.varsNamed 6) = true := by kernel_rfl
set_option maxRecDepth 100000 in
theorem closed : joinedFacts Try.prog 6 Try.f6 Rows.fnLearnWriteExactSpec Rows.fnLearnWriteExactRow = true := by
  unfold joinedFacts
  refine and_tt (and_tt (and_tt (and_tt (and_tt (and_tt (and_tt (and_tt (and_tt (and_tt (and_tt (and_tt (and_tt (and_tt (and_tt (and_tt (and_tt (and_tt (and_tt (and_tt (and_tt (and_tt (and_tt (and_tt (and_tt (and_tt (and_tt (and_tt (and_tt (and_tt (and_tt ?_ Facts.laidOut) Facts.rowed) ?_) ?_) ?_) Facts.stops) ?_) Facts.knobs) inPlace) unfollowed) recurses) varsNamed) ?_) ?_) ?_) ?_) ?_) ?_) ?_) ?_) ?_) Facts.keys) ?_) Facts.heard) Facts.enter) Facts.lifts) Facts.make) ?_) ?_) ?_) ?_
  all_goals as_aux_lemma => kernel_rfl

theorem over : Rows.fnLearnWriteExactRow.holds Try.pinned (OpenSpec.ofChange Rows.fnLearnWriteExactSpec) :=
  OpenClaim.holds_of_wide 6 Try.f6 rfl rfl rfl rfl rfl rfl rfl ⟨rfl, rfl, rfl, rfl, rfl⟩ rfl rfl rfl rfl rfl named Try.func6 closed
    (of_decide_eq_true (by as_aux_lemma => kernel_rfl)) (by unfold Func.isWrapper; rw [if_neg (by decide +kernel)]; exact ⟨rfl, rfl⟩)
    (fun os started H enc _ => lifted os started H enc)

/-- THE STATEMENT -/
theorem proved : Rows.FnLearnWriteExactSaid :=
  over
#print axioms proved
end Go.Proofs.Qxb6605773a.fnLearnWriteExact

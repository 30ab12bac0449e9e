/- Rows.FnTextSetIgnoresOrderAndRepeatsSaid: the row's step and the statement. After the guide's shell for a law over a slice. -/
import Derived.Test.Qxb6605915aLaw6
import Derived.Test.Qxb6605915aFacts
import Derived.SliceStrings
namespace Go.Proofs.Qxb6605915a.fnTextSetIgnoresOrderAndRepeats
open Go.ChangeShapes Go.WideShapes Go.ChangeAt Go.RowKit
open Facts (and_tt)
open Strs
set_option linter.unusedVariables false

theorem open_sl {W : World} {ad : Addr} {len : Nat} {ss : List ByteArray} (hl : len ≤ ss.length) (hcell : ∀ i, i < ss.length → W.cell? (ad.add i) = some (.string (ss.getD i ByteArray.empty))) :
    Sl Value.string W (some ad) len (ss.take len) := by
  refine ⟨by rw [List.length_take]; omega, fun j x hx => ?_⟩
  have hj : j < ss.length := by have := (List.getElem?_eq_some_iff.1 hx).1; rw [List.length_take] at this; omega
  have hj2 : j < len := by have := (List.getElem?_eq_some_iff.1 hx).1; rw [List.length_take] at this; omega
  rw [List.getElem?_take, if_pos hj2] at hx
  have hc := hcell j hj
  have h00 := hcell 0 (by omega)
  rw [List.getD_eq_getElem?_getD, hx] at hc
  obtain ⟨b, off, spot⟩ := ad
  have hspot : spot = none := by simpa [Addr.add] using World.cell?_spot h00
  subst hspot
  refine ⟨b, off, rfl, ?_⟩
  rw [Addr.add_lit] at hc
  exact hc

/-! ### THE ROW's STEP -/
set_option maxRecDepth 100000 in
theorem lifted (os : Os) (started : os.Started) (H : Type) (enc : TypeId × Value → H) :
    ReturnsInHanded {} Try.checked os 6 .any (Rows.fnTextSetIgnoresOrderAndRepeatsSpec.pre6 enc Try.prog Try.f6 Rows.fnTextSetIgnoresOrderAndRepeatsRow.domain false) (Rows.fnTextSetIgnoresOrderAndRepeatsSpec.post enc Try.prog Try.f6 false true false false) := by
  refine returnsInHanded_of_change (C := Try.checked) Facts.own started (by kernel_rfl) Try.func6
    (ChangeSpec.witness6 (enc := enc) (C := Try.checked) false ⟨#[], #[.slice none 0 0], []⟩ 8 (by kernel_rfl) (by kernel_rfl) (by kernel_rfl) (by kernel_rfl)) ?_
  intro W base args ds gs before hval0 hW hcnd _
  have hval : ∀ (j : Nat) t v, Try.f6.params[j]? = some t → args[j]? = some v → Value.okWide Try.prog W .any base t v := hval0
  have hW' := hW
  obtain ⟨p, q, hA0, hV, rfl, hfz, hnd⟩ := hW
  have hA : DataW.TrodAll enc Try.prog W 0 (fun _ => true) true Try.f6.params.toList args.toList ds p := hA0
  rw [Try.params6] at hA hval
  obtain ⟨v0, vs0, d0, ds0, p0, q0, hargs, rfl, rfl, h0, r0⟩ := trodAll_cons hA
  obtain ⟨rfl, rfl, rfl⟩ := trodAll_nil r0
  obtain rfl : args = #[v0] := by cases args; simp_all
  obtain ⟨rfl, rfl⟩ := trodVars_none hV
  obtain ⟨a0, len0, cap0, rfl⟩ := okWide_slice Try.underlying39 (hval 0 39 v0 rfl rfl)
  have k0 := h0
  have lt0 : ∀ x ∈ p0, x.block < W.heap.size := by obtain ⟨m, hm⟩ := k0; exact DataW.trod_lt m _ _ _ hm
  obtain ⟨l0, s0, n0, b0⟩ : ∃ l, Sl Value.string W a0 len0 l ∧ (a0 = none → len0 = 0) ∧ len0 ≤ maxLen := by
    obtain ⟨fuel, hf⟩ := h0
    rcases open_strings Try.underlying39 Try.underlying9 (by kernel_rfl) hf with ⟨hcs, _⟩ | ⟨x, l, c, ss, hcs, _, hl, hm, hz, _, hcell, hws⟩
    · simp [Value.cells] at hcs
      obtain ⟨rfl, rfl, rfl⟩ := hcs
      exact ⟨[], ⟨rfl, fun j x hx => by simp at hx⟩, fun _ => rfl, Nat.zero_le _⟩
    · simp [Value.cells] at hcs
      obtain ⟨rfl, rfl, rfl⟩ := hcs
      simp only [if_true] at hz
      exact ⟨_, open_sl (by omega) hcell, fun h => (by cases h), by omega⟩
  clear hA0 hval0
  refine (law6 a0 len0 cap0 l0 W b0 s0 n0).mono fun e W' ⟨he, bel⟩ => ?_
  subst he
  exact ⟨_, rfl, _, _, _, [], _, [], hW', trodAll_mk1 (shut_bool Try.underlying4 _), (trodAll_cons_mk (Below.trod Facts.laidOut (by kernel_rfl) (of_decide_eq_true (by kernel_rfl)) k0 bel lt0) trodAll_mk0), rfl, bel.frame _, fun h => by cases h⟩

/-! 6# THE CLOSED FACTS, a theorem each: in one declaration they outgrow the memory lid -/
set_option maxRecDepth 100000 in
theorem named : Try.prog.funcNamed Rows.fnTextSetIgnoresOrderAndRepeatsRow.func = some 6 := by kernel_rfl
set_option maxRecDepth 100000 in
theorem inPlace : (Rows.fnTextSetIgnoresOrderAndRepeatsRow.inPlace == Try.prog.inPlace 6) = true := by kernel_rfl
set_option maxRecDepth 100000 in
theorem unfollowed : (Rows.fnTextSetIgnoresOrderAndRepeatsRow.unfollowed == Try.prog.unfollowed 6) = true := by kernel_rfl
set_option maxRecDepth 100000 in
theorem recurses : (Rows.fnTextSetIgnoresOrderAndRepeatsRow.recurses == Try.prog.recurses 6) = true := by kernel_rfl
set_option maxRecDepth 100000 in
theorem varsNamed : (Rows.fnTextSetIgnoresOrderAndRepeatsRow.named == Try.prog.varsNamed 6) = true := by kernel_rfl
set_option maxRecDepth 100000 in
theorem closed : joinedFacts Try.prog 6 Try.f6 Rows.fnTextSetIgnoresOrderAndRepeatsSpec Rows.fnTextSetIgnoresOrderAndRepeatsRow = true := by
  unfold joinedFacts
  refine and_tt (and_tt (and_tt (and_tt (and_tt (and_tt (and_tt (and_tt (and_tt (and_tt (and_tt (and_tt (and_tt (and_tt (and_tt (and_tt (and_tt (and_tt (and_tt (and_tt (and_tt (and_tt (and_tt (and_tt (and_tt (and_tt (and_tt (and_tt (and_tt (and_tt (and_tt ?_ Facts.laidOut) Facts.rowed) ?_) ?_) ?_) Facts.stops) ?_) Facts.knobs) inPlace) unfollowed) recurses) varsNamed) ?_) ?_) ?_) ?_) ?_) ?_) ?_) ?_) ?_) Facts.keys) ?_) Facts.heard) Facts.enter) Facts.lifts) Facts.make) ?_) ?_) ?_) ?_
  all_goals as_aux_lemma => kernel_rfl

theorem over : Rows.fnTextSetIgnoresOrderAndRepeatsRow.holds Try.pinned (OpenSpec.ofChange Rows.fnTextSetIgnoresOrderAndRepeatsSpec) :=
  OpenClaim.holds_of_wide 6 Try.f6 rfl rfl rfl rfl rfl rfl rfl ⟨rfl, rfl, rfl, rfl, rfl⟩ rfl rfl rfl rfl rfl named Try.func6 closed
    (of_decide_eq_true (by as_aux_lemma => kernel_rfl)) (by unfold Func.isWrapper; rw [if_neg (by decide +kernel)]; exact ⟨rfl, rfl⟩)
    (fun os started H enc _ => lifted os started H enc)

/-- THE STATEMENT -/
theorem proved : Rows.FnTextSetIgnoresOrderAndRepeatsSaid :=
  over
#print axioms proved
end Go.Proofs.Qxb6605915a.fnTextSetIgnoresOrderAndRepeats

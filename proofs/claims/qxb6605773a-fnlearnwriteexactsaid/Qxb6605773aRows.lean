/-
  No cell of these rows narrows 'for every input' (looked for: loops, veiled, ifaces, maps, wideKeys, modest, calm, conditions, laid).
  DERIVED. THE GIVEN ROWS OF THIS SEAT. 5 by the template 'for every input the law returns true; each argument reads behind the call as it read before'; 0 by the template 'total and deterministic' (their statements: Qxb6605773aTotals.lean).
  GIVEN WITH THE SEED: the statements are not yours to turn. If you find one false, say at which input.
  Laid BY PROGRAM, IN A SANDBOX (cutbox-rows.mjs): the forced cells as the released guide's own fill.sh prints them over the translation 0ea33337e70c5a76… (all of the seat's roots in one cut). By AI agents, Wed Nov 11 2026. No macro, syntax, notation, axiom, sorry.
-/
import Derived.Test.Qxb6605773aChecked
import GoSem.Claim
import GoSem.ClaimJoined
import GoSem.ClaimMapViews
import Derived.JoinedTies
import Derived.KernelRfl
namespace Go.Proofs.Qxb6605773a
/- THE CELL 'sum', in the pinned program and in every row, IS THE sha256 OF THE DUMP (.gsa) THAT Qxb6605773aProg.lean LOADS. Nothing in Lean hashes anything: it is a label: what it is worth is what the hold of that sum in a sandbox is worth. -/
noncomputable def Try.pinned : Pinned := { name := "qxb6605773a", sum := "0ea33337e70c5a765cfc3ee798082d7342b06a3c9159ee0a1653243c48cceaa0", checked := Try.checked }
namespace Rows
def none {H : Type} : Left H := { results := [], args := [] }

/-- 'zzlaws_internal_store_b1.FnClockSetExact': WHATEVER THE INPUT: true; the input reads as it did. -/
def fnClockSetExactSpec : ChangeSpec := { name := "fnClockSetExact", fn := fun _ => fun
  | [d1, d2, d3] => { results := [.lit (.bool true)], args := [d1, d2, d3] }
  | _ => none }
def fnClockSetExactRow : OpenClaim := { program := "qxb6605773a", sum := "0ea33337e70c5a765cfc3ee798082d7342b06a3c9159ee0a1653243c48cceaa0", func := "example.com/tidewater/tidewater/zzlaws_internal_store_b1.FnClockSetExact", spec := "fnClockSetExact", apart := false }
def FnClockSetExactSaid : Prop := fnClockSetExactRow.holds Try.pinned (OpenSpec.ofChange fnClockSetExactSpec)

/-- ITS FALSE NEIGHBOUR: 'it returns false'. Refute it at one input. -/
def fnClockSetExactWrong : ChangeSpec := { name := "fnClockSetExact", fn := fun _ => fun
  | [d1, d2, d3] => { results := [.lit (.bool false)], args := [d1, d2, d3] }
  | _ => none }
def FnClockSetExactWrongFalsely : Prop := fnClockSetExactRow.holds Try.pinned (OpenSpec.ofChange fnClockSetExactWrong)

/-- 'zzlaws_internal_store_b1.FnClockSetScriptLastWins': WHATEVER THE INPUT: true; the input reads as it did. -/
def fnClockSetScriptLastWinsSpec : ChangeSpec := { name := "fnClockSetScriptLastWins", fn := fun _ => fun
  | [d1, d2] => { results := [.lit (.bool true)], args := [d1, d2] }
  | _ => none }
def fnClockSetScriptLastWinsRow : OpenClaim := { program := "qxb6605773a", sum := "0ea33337e70c5a765cfc3ee798082d7342b06a3c9159ee0a1653243c48cceaa0", func := "example.com/tidewater/tidewater/zzlaws_internal_store_b1.FnClockSetScriptLastWins", spec := "fnClockSetScriptLastWins", apart := false }
def FnClockSetScriptLastWinsSaid : Prop := fnClockSetScriptLastWinsRow.holds Try.pinned (OpenSpec.ofChange fnClockSetScriptLastWinsSpec)

/-- ITS FALSE NEIGHBOUR: 'it returns false'. Refute it at one input. -/
def fnClockSetScriptLastWinsWrong : ChangeSpec := { name := "fnClockSetScriptLastWins", fn := fun _ => fun
  | [d1, d2] => { results := [.lit (.bool false)], args := [d1, d2] }
  | _ => none }
def FnClockSetScriptLastWinsWrongFalsely : Prop := fnClockSetScriptLastWinsRow.holds Try.pinned (OpenSpec.ofChange fnClockSetScriptLastWinsWrong)

/-- 'zzlaws_internal_store_b1.FnNewCounterFresh': WHATEVER THE INPUT: true; the input reads as it did. -/
def fnNewCounterFreshSpec : ChangeSpec := { name := "fnNewCounterFresh", fn := fun _ => fun
  | [d] => { results := [.lit (.bool true)], args := [d] }
  | _ => none }
def fnNewCounterFreshRow : OpenClaim := { program := "qxb6605773a", sum := "0ea33337e70c5a765cfc3ee798082d7342b06a3c9159ee0a1653243c48cceaa0", func := "example.com/tidewater/tidewater/zzlaws_internal_store_b1.FnNewCounterFresh", spec := "fnNewCounterFresh", apart := false }
def FnNewCounterFreshSaid : Prop := fnNewCounterFreshRow.holds Try.pinned (OpenSpec.ofChange fnNewCounterFreshSpec)

/-- ITS FALSE NEIGHBOUR: 'it returns false'. Refute it at one input. -/
def fnNewCounterFreshWrong : ChangeSpec := { name := "fnNewCounterFresh", fn := fun _ => fun
  | [d] => { results := [.lit (.bool false)], args := [d] }
  | _ => none }
def FnNewCounterFreshWrongFalsely : Prop := fnNewCounterFreshRow.holds Try.pinned (OpenSpec.ofChange fnNewCounterFreshWrong)

/-- 'zzlaws_internal_store_b1.FnLearnWriteExact': WHATEVER THE INPUT: true; the input reads as it did. -/
def fnLearnWriteExactSpec : ChangeSpec := { name := "fnLearnWriteExact", fn := fun _ => fun
  | [d1, d2, d3, d4] => { results := [.lit (.bool true)], args := [d1, d2, d3, d4] }
  | _ => none }
def fnLearnWriteExactRow : OpenClaim := { program := "qxb6605773a", sum := "0ea33337e70c5a765cfc3ee798082d7342b06a3c9159ee0a1653243c48cceaa0", func := "example.com/tidewater/tidewater/zzlaws_internal_store_b1.FnLearnWriteExact", spec := "fnLearnWriteExact", apart := false }
def FnLearnWriteExactSaid : Prop := fnLearnWriteExactRow.holds Try.pinned (OpenSpec.ofChange fnLearnWriteExactSpec)

/-- ITS FALSE NEIGHBOUR: 'it returns false'. Refute it at one input. -/
def fnLearnWriteExactWrong : ChangeSpec := { name := "fnLearnWriteExact", fn := fun _ => fun
  | [d1, d2, d3, d4] => { results := [.lit (.bool false)], args := [d1, d2, d3, d4] }
  | _ => none }
def FnLearnWriteExactWrongFalsely : Prop := fnLearnWriteExactRow.holds Try.pinned (OpenSpec.ofChange fnLearnWriteExactWrong)

/-- 'zzlaws_internal_store_b1.FnLearnWriteScriptLatest': WHATEVER THE INPUT: true; the input reads as it did. -/
def fnLearnWriteScriptLatestSpec : ChangeSpec := { name := "fnLearnWriteScriptLatest", fn := fun _ => fun
  | [d1, d2, d3] => { results := [.lit (.bool true)], args := [d1, d2, d3] }
  | _ => none }
def fnLearnWriteScriptLatestRow : OpenClaim := { program := "qxb6605773a", sum := "0ea33337e70c5a765cfc3ee798082d7342b06a3c9159ee0a1653243c48cceaa0", func := "example.com/tidewater/tidewater/zzlaws_internal_store_b1.FnLearnWriteScriptLatest", spec := "fnLearnWriteScriptLatest", apart := false }
def FnLearnWriteScriptLatestSaid : Prop := fnLearnWriteScriptLatestRow.holds Try.pinned (OpenSpec.ofChange fnLearnWriteScriptLatestSpec)

/-- ITS FALSE NEIGHBOUR: 'it returns false'. Refute it at one input. -/
def fnLearnWriteScriptLatestWrong : ChangeSpec := { name := "fnLearnWriteScriptLatest", fn := fun _ => fun
  | [d1, d2, d3] => { results := [.lit (.bool false)], args := [d1, d2, d3] }
  | _ => none }
def FnLearnWriteScriptLatestWrongFalsely : Prop := fnLearnWriteScriptLatestRow.holds Try.pinned (OpenSpec.ofChange fnLearnWriteScriptLatestWrong)

end Rows
end Go.Proofs.Qxb6605773a

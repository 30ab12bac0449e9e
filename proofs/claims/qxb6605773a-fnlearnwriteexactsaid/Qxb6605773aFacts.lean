/- CLOSED FACTS OF THE WHOLE PROGRAM, one theorem each (in one declaration they outgrow the memory lid). -/
import Derived.Test.Qxb6605773aRows
import Derived.WalkKit
import Derived.ProofKit
namespace Go.Proofs.Qxb6605773a.Facts
theorem and_tt {a b : Bool} (h : a = true) (k : b = true) : (a && b) = true := by rw [h, k]; rfl
theorem own : ownKnob Try.prog.godebug = none := by kernel_rfl
theorem laidOut : laidOutB Try.prog = true := by kernel_rfl
theorem rowed : mapsRowed Try.prog = true := by kernel_rfl
theorem stops : (Try.prog.stops == []) = true := by kernel_rfl
theorem knobs : (Try.prog.stopKnobs == []) = true := by kernel_rfl
theorem keys : (true == Try.prog.plainKeys) = true := by kernel_rfl
theorem heard : Try.prog.stopsHeard = true := by kernel_rfl
theorem enter : Try.prog.mayEnter = true := by kernel_rfl
theorem lifts : (false == Try.prog.liftsFinal) = true := by kernel_rfl
theorem make : (Try.prog.make == some Make.cut) = true := by kernel_rfl
end Go.Proofs.Qxb6605773a.Facts

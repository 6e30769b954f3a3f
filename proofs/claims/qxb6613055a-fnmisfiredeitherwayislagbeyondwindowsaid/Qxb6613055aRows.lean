/-
  No cell of these rows narrows 'for every input' (looked for: loops, veiled, ifaces, maps, wideKeys, modest, calm, conditions, laid).
  DERIVED. THE GIVEN ROWS OF THIS SEAT. 2 by the template 'for every input the law returns true; each argument reads behind the call as it read before'; 0 by the template 'total and deterministic' (their statements: Qxb6613055aTotals.lean).
  GIVEN WITH THE SEED: the statements are not yours to turn. If you find one false, say at which input.
  Laid BY PROGRAM, IN A SANDBOX (cutbox-rows.mjs): the forced cells as the released guide's own fill.sh prints them over the translation 393a49423f49c954… (all of the seat's roots in one cut). By AI agents, Wed Nov 11 2026. No macro, syntax, notation, axiom, sorry.
-/
import Derived.Test.Qxb6613055aChecked
import GoSem.Claim
import GoSem.ClaimJoined
import GoSem.ClaimMapViews
import Derived.JoinedTies
import Derived.KernelRfl
namespace Go.Proofs.Qxb6613055a
/- THE CELL 'sum', in the pinned program and in every row, IS THE sha256 OF THE DUMP (.gsa) THAT Qxb6613055aProg.lean LOADS. Nothing in Lean hashes anything: it is a label: what it is worth is what the hold of that sum in a sandbox is worth. -/
noncomputable def Try.pinned : Pinned := { name := "qxb6613055a", sum := "393a49423f49c9545092b9a5c96dde2738ea205869df2a8ea80bf9b2470f3e37", checked := Try.checked }
namespace Rows
def none {H : Type} : Left H := { results := [], args := [] }

/-- 'zzlaws_pkg_job_b1.FnMisfiredThresholdIsMisfireAfterPlusOneNanosecond': WHATEVER THE INPUT: true; the input reads as it did. -/
def fnMisfiredThresholdIsMisfireAfterPlusOneNanosecondSpec : ChangeSpec := { name := "fnMisfiredThresholdIsMisfireAfterPlusOneNanosecond", fn := fun _ => fun
  | [d1, d2] => { results := [.lit (.bool true)], args := [d1, d2] }
  | _ => none }
def fnMisfiredThresholdIsMisfireAfterPlusOneNanosecondRow : OpenClaim := { program := "qxb6613055a", sum := "393a49423f49c9545092b9a5c96dde2738ea205869df2a8ea80bf9b2470f3e37", func := "example.com/rowclock/rowclock/zzlaws_pkg_job_b1.FnMisfiredThresholdIsMisfireAfterPlusOneNanosecond", spec := "fnMisfiredThresholdIsMisfireAfterPlusOneNanosecond", apart := false }
def FnMisfiredThresholdIsMisfireAfterPlusOneNanosecondSaid : Prop := fnMisfiredThresholdIsMisfireAfterPlusOneNanosecondRow.holds Try.pinned (OpenSpec.ofChange fnMisfiredThresholdIsMisfireAfterPlusOneNanosecondSpec)

/-- ITS FALSE NEIGHBOUR: 'it returns false'. Refute it at one input. -/
def fnMisfiredThresholdIsMisfireAfterPlusOneNanosecondWrong : ChangeSpec := { name := "fnMisfiredThresholdIsMisfireAfterPlusOneNanosecond", fn := fun _ => fun
  | [d1, d2] => { results := [.lit (.bool false)], args := [d1, d2] }
  | _ => none }
def FnMisfiredThresholdIsMisfireAfterPlusOneNanosecondWrongFalsely : Prop := fnMisfiredThresholdIsMisfireAfterPlusOneNanosecondRow.holds Try.pinned (OpenSpec.ofChange fnMisfiredThresholdIsMisfireAfterPlusOneNanosecondWrong)

/-- 'zzlaws_pkg_job_b1.FnMisfiredEitherWayIsLagBeyondWindow': WHATEVER THE INPUT: true; the input reads as it did. -/
def fnMisfiredEitherWayIsLagBeyondWindowSpec : ChangeSpec := { name := "fnMisfiredEitherWayIsLagBeyondWindow", fn := fun _ => fun
  | [d1, d2, d3] => { results := [.lit (.bool true)], args := [d1, d2, d3] }
  | _ => none }
def fnMisfiredEitherWayIsLagBeyondWindowRow : OpenClaim := { program := "qxb6613055a", sum := "393a49423f49c9545092b9a5c96dde2738ea205869df2a8ea80bf9b2470f3e37", func := "example.com/rowclock/rowclock/zzlaws_pkg_job_b1.FnMisfiredEitherWayIsLagBeyondWindow", spec := "fnMisfiredEitherWayIsLagBeyondWindow", apart := false }
def FnMisfiredEitherWayIsLagBeyondWindowSaid : Prop := fnMisfiredEitherWayIsLagBeyondWindowRow.holds Try.pinned (OpenSpec.ofChange fnMisfiredEitherWayIsLagBeyondWindowSpec)

/-- ITS FALSE NEIGHBOUR: 'it returns false'. Refute it at one input. -/
def fnMisfiredEitherWayIsLagBeyondWindowWrong : ChangeSpec := { name := "fnMisfiredEitherWayIsLagBeyondWindow", fn := fun _ => fun
  | [d1, d2, d3] => { results := [.lit (.bool false)], args := [d1, d2, d3] }
  | _ => none }
def FnMisfiredEitherWayIsLagBeyondWindowWrongFalsely : Prop := fnMisfiredEitherWayIsLagBeyondWindowRow.holds Try.pinned (OpenSpec.ofChange fnMisfiredEitherWayIsLagBeyondWindowWrong)

end Rows
end Go.Proofs.Qxb6613055a

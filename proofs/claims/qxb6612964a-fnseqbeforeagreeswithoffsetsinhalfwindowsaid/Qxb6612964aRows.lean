/-
  No cell of these rows narrows 'for every input' (looked for: loops, veiled, ifaces, maps, wideKeys, modest, calm, conditions, laid).
  DERIVED. THE GIVEN ROWS OF THIS SEAT. 2 by the template 'for every input the law returns true; each argument reads behind the call as it read before'; 0 by the template 'total and deterministic' (their statements: Qxb6612964aTotals.lean).
  GIVEN WITH THE SEED: the statements are not yours to turn. If you find one false, say at which input.
  Laid BY PROGRAM, IN A SANDBOX (cutbox-rows.mjs): the forced cells as the released guide's own fill.sh prints them over the translation dc5be349640c28a4… (all of the seat's roots in one cut). By AI agents, Wed Nov 11 2026. No macro, syntax, notation, axiom, sorry.
-/
import Derived.Test.Qxb6612964aChecked
import GoSem.Claim
import GoSem.ClaimJoined
import GoSem.ClaimMapViews
import Derived.JoinedTies
import Derived.KernelRfl
namespace Go.Proofs.Qxb6612964a
/- THE CELL 'sum', in the pinned program and in every row, IS THE sha256 OF THE DUMP (.gsa) THAT Qxb6612964aProg.lean LOADS. Nothing in Lean hashes anything: it is a label: what it is worth is what the hold of that sum in a sandbox is worth. -/
noncomputable def Try.pinned : Pinned := { name := "qxb6612964a", sum := "dc5be349640c28a4b4da9a197be72dbf85e40e5692be05da37eb7d109388ab9e", checked := Try.checked }
namespace Rows
def none {H : Type} : Left H := { results := [], args := [] }

/-- 'zzlaws_root_b1.FnSeqBeforeIsForwardHalfWindow': WHATEVER THE INPUT: true; the input reads as it did. -/
def fnSeqBeforeIsForwardHalfWindowSpec : ChangeSpec := { name := "fnSeqBeforeIsForwardHalfWindow", fn := fun _ => fun
  | [d1, d2] => { results := [.lit (.bool true)], args := [d1, d2] }
  | _ => none }
def fnSeqBeforeIsForwardHalfWindowRow : OpenClaim := { program := "qxb6612964a", sum := "dc5be349640c28a4b4da9a197be72dbf85e40e5692be05da37eb7d109388ab9e", func := "example.com/wirefold/wirefold/zzlaws_root_b1.FnSeqBeforeIsForwardHalfWindow", spec := "fnSeqBeforeIsForwardHalfWindow", apart := false }
def FnSeqBeforeIsForwardHalfWindowSaid : Prop := fnSeqBeforeIsForwardHalfWindowRow.holds Try.pinned (OpenSpec.ofChange fnSeqBeforeIsForwardHalfWindowSpec)

/-- ITS FALSE NEIGHBOUR: 'it returns false'. Refute it at one input. -/
def fnSeqBeforeIsForwardHalfWindowWrong : ChangeSpec := { name := "fnSeqBeforeIsForwardHalfWindow", fn := fun _ => fun
  | [d1, d2] => { results := [.lit (.bool false)], args := [d1, d2] }
  | _ => none }
def FnSeqBeforeIsForwardHalfWindowWrongFalsely : Prop := fnSeqBeforeIsForwardHalfWindowRow.holds Try.pinned (OpenSpec.ofChange fnSeqBeforeIsForwardHalfWindowWrong)

/-- 'zzlaws_root_b1.FnSeqBeforeAgreesWithOffsetsInHalfWindow': WHATEVER THE INPUT: true; the input reads as it did. -/
def fnSeqBeforeAgreesWithOffsetsInHalfWindowSpec : ChangeSpec := { name := "fnSeqBeforeAgreesWithOffsetsInHalfWindow", fn := fun _ => fun
  | [d1, d2, d3] => { results := [.lit (.bool true)], args := [d1, d2, d3] }
  | _ => none }
def fnSeqBeforeAgreesWithOffsetsInHalfWindowRow : OpenClaim := { program := "qxb6612964a", sum := "dc5be349640c28a4b4da9a197be72dbf85e40e5692be05da37eb7d109388ab9e", func := "example.com/wirefold/wirefold/zzlaws_root_b1.FnSeqBeforeAgreesWithOffsetsInHalfWindow", spec := "fnSeqBeforeAgreesWithOffsetsInHalfWindow", apart := false }
def FnSeqBeforeAgreesWithOffsetsInHalfWindowSaid : Prop := fnSeqBeforeAgreesWithOffsetsInHalfWindowRow.holds Try.pinned (OpenSpec.ofChange fnSeqBeforeAgreesWithOffsetsInHalfWindowSpec)

/-- ITS FALSE NEIGHBOUR: 'it returns false'. Refute it at one input. -/
def fnSeqBeforeAgreesWithOffsetsInHalfWindowWrong : ChangeSpec := { name := "fnSeqBeforeAgreesWithOffsetsInHalfWindow", fn := fun _ => fun
  | [d1, d2, d3] => { results := [.lit (.bool false)], args := [d1, d2, d3] }
  | _ => none }
def FnSeqBeforeAgreesWithOffsetsInHalfWindowWrongFalsely : Prop := fnSeqBeforeAgreesWithOffsetsInHalfWindowRow.holds Try.pinned (OpenSpec.ofChange fnSeqBeforeAgreesWithOffsetsInHalfWindowWrong)

end Rows
end Go.Proofs.Qxb6612964a

/-
  No cell of these rows narrows 'for every input' (looked for: loops, veiled, ifaces, maps, wideKeys, modest, calm, conditions, laid).
  DERIVED. THE GIVEN ROWS OF THIS SEAT. 4 by the template 'for every input the law returns true; each argument reads behind the call as it read before'; 0 by the template 'total and deterministic' (their statements: Qxb6613066aTotals.lean).
  GIVEN WITH THE SEED: the statements are not yours to turn. If you find one false, say at which input.
  Laid BY PROGRAM, IN A SANDBOX (cutbox-rows.mjs): the forced cells as the released guide's own fill.sh prints them over the translation fba07fa8c543cb77… (all of the seat's roots in one cut). By AI agents, Wed Nov 11 2026. No macro, syntax, notation, axiom, sorry.
-/
import Derived.Test.Qxb6613066aChecked
import GoSem.Claim
import GoSem.ClaimJoined
import GoSem.ClaimMapViews
import Derived.JoinedTies
import Derived.KernelRfl
namespace Go.Proofs.Qxb6613066a
/- THE CELL 'sum', in the pinned program and in every row, IS THE sha256 OF THE DUMP (.gsa) THAT Qxb6613066aProg.lean LOADS. Nothing in Lean hashes anything: it is a label: what it is worth is what the hold of that sum in a sandbox is worth. -/
noncomputable def Try.pinned : Pinned := { name := "qxb6613066a", sum := "fba07fa8c543cb77c72ee15d8e5f90a59dc1f09941f9e2a7797dba20e8a7c841", checked := Try.checked }
namespace Rows
def none {H : Type} : Left H := { results := [], args := [] }

/-- 'zzlaws_root_b1.FnLeaderOfTurns': WHATEVER THE INPUT: true; the input reads as it did. -/
def fnLeaderOfTurnsSpec : ChangeSpec := { name := "fnLeaderOfTurns", fn := fun _ => fun
  | [d1, d2] => { results := [.lit (.bool true)], args := [d1, d2] }
  | _ => none }
def fnLeaderOfTurnsRow : OpenClaim := { program := "qxb6613066a", sum := "fba07fa8c543cb77c72ee15d8e5f90a59dc1f09941f9e2a7797dba20e8a7c841", func := "example.com/spontane/spontane/zzlaws_root_b1.FnLeaderOfTurns", spec := "fnLeaderOfTurns", apart := false }
def FnLeaderOfTurnsSaid : Prop := fnLeaderOfTurnsRow.holds Try.pinned (OpenSpec.ofChange fnLeaderOfTurnsSpec)

/-- ITS FALSE NEIGHBOUR: 'it returns false'. Refute it at one input. -/
def fnLeaderOfTurnsWrong : ChangeSpec := { name := "fnLeaderOfTurns", fn := fun _ => fun
  | [d1, d2] => { results := [.lit (.bool false)], args := [d1, d2] }
  | _ => none }
def FnLeaderOfTurnsWrongFalsely : Prop := fnLeaderOfTurnsRow.holds Try.pinned (OpenSpec.ofChange fnLeaderOfTurnsWrong)

/-- 'zzlaws_root_b1.FnCompareIDsByteOrder': WHATEVER THE INPUT: true; the input reads as it did. -/
def fnCompareIDsByteOrderSpec : ChangeSpec := { name := "fnCompareIDsByteOrder", fn := fun _ => fun
  | [d1, d2, d3, d4, d5, d6] => { results := [.lit (.bool true)], args := [d1, d2, d3, d4, d5, d6] }
  | _ => none }
def fnCompareIDsByteOrderRow : OpenClaim := { program := "qxb6613066a", sum := "fba07fa8c543cb77c72ee15d8e5f90a59dc1f09941f9e2a7797dba20e8a7c841", func := "example.com/spontane/spontane/zzlaws_root_b1.FnCompareIDsByteOrder", spec := "fnCompareIDsByteOrder", apart := false }
def FnCompareIDsByteOrderSaid : Prop := fnCompareIDsByteOrderRow.holds Try.pinned (OpenSpec.ofChange fnCompareIDsByteOrderSpec)

/-- ITS FALSE NEIGHBOUR: 'it returns false'. Refute it at one input. -/
def fnCompareIDsByteOrderWrong : ChangeSpec := { name := "fnCompareIDsByteOrder", fn := fun _ => fun
  | [d1, d2, d3, d4, d5, d6] => { results := [.lit (.bool false)], args := [d1, d2, d3, d4, d5, d6] }
  | _ => none }
def FnCompareIDsByteOrderWrongFalsely : Prop := fnCompareIDsByteOrderRow.holds Try.pinned (OpenSpec.ofChange fnCompareIDsByteOrderWrong)

/-- 'zzlaws_root_b1.FnCompareIDsSeqSuccessor': WHATEVER THE INPUT: true; the input reads as it did. -/
def fnCompareIDsSeqSuccessorSpec : ChangeSpec := { name := "fnCompareIDsSeqSuccessor", fn := fun _ => fun
  | [d1, d2, d3, d4, d5, d6] => { results := [.lit (.bool true)], args := [d1, d2, d3, d4, d5, d6] }
  | _ => none }
def fnCompareIDsSeqSuccessorRow : OpenClaim := { program := "qxb6613066a", sum := "fba07fa8c543cb77c72ee15d8e5f90a59dc1f09941f9e2a7797dba20e8a7c841", func := "example.com/spontane/spontane/zzlaws_root_b1.FnCompareIDsSeqSuccessor", spec := "fnCompareIDsSeqSuccessor", apart := false }
def FnCompareIDsSeqSuccessorSaid : Prop := fnCompareIDsSeqSuccessorRow.holds Try.pinned (OpenSpec.ofChange fnCompareIDsSeqSuccessorSpec)

/-- ITS FALSE NEIGHBOUR: 'it returns false'. Refute it at one input. -/
def fnCompareIDsSeqSuccessorWrong : ChangeSpec := { name := "fnCompareIDsSeqSuccessor", fn := fun _ => fun
  | [d1, d2, d3, d4, d5, d6] => { results := [.lit (.bool false)], args := [d1, d2, d3, d4, d5, d6] }
  | _ => none }
def FnCompareIDsSeqSuccessorWrongFalsely : Prop := fnCompareIDsSeqSuccessorRow.holds Try.pinned (OpenSpec.ofChange fnCompareIDsSeqSuccessorWrong)

/-- 'zzlaws_root_b1.FnBeginKeepsAllButNow': WHATEVER THE INPUT: true; the input reads as it did. -/
def fnBeginKeepsAllButNowSpec : ChangeSpec := { name := "fnBeginKeepsAllButNow", fn := fun _ => fun
  | [d1, d2, d3, d4, d5, d6] => { results := [.lit (.bool true)], args := [d1, d2, d3, d4, d5, d6] }
  | _ => none }
def fnBeginKeepsAllButNowRow : OpenClaim := { program := "qxb6613066a", sum := "fba07fa8c543cb77c72ee15d8e5f90a59dc1f09941f9e2a7797dba20e8a7c841", func := "example.com/spontane/spontane/zzlaws_root_b1.FnBeginKeepsAllButNow", spec := "fnBeginKeepsAllButNow", unfollowed := true, recurses := true, apart := false }
def FnBeginKeepsAllButNowSaid : Prop := fnBeginKeepsAllButNowRow.holds Try.pinned (OpenSpec.ofChange fnBeginKeepsAllButNowSpec)

/-- ITS FALSE NEIGHBOUR: 'it returns false'. Refute it at one input. -/
def fnBeginKeepsAllButNowWrong : ChangeSpec := { name := "fnBeginKeepsAllButNow", fn := fun _ => fun
  | [d1, d2, d3, d4, d5, d6] => { results := [.lit (.bool false)], args := [d1, d2, d3, d4, d5, d6] }
  | _ => none }
def FnBeginKeepsAllButNowWrongFalsely : Prop := fnBeginKeepsAllButNowRow.holds Try.pinned (OpenSpec.ofChange fnBeginKeepsAllButNowWrong)

end Rows
end Go.Proofs.Qxb6613066a

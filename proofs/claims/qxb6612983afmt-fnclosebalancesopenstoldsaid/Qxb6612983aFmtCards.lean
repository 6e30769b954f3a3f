/-
  DERIVED. GIVEN WITH THE SEED: THE CARDS: each row of Qxb6612983aFmtRows.lean that lists a variable, with what it lists TIED to the program's text (the seventh form; the later family's looks); each row that meets fmt, with fmt's text TOLD by the authors' own Lean function (tested against real Go, not proved from fmt's source: count such statements apart). THE CARD IS WHAT COUNTS. Prove the row's statement (the work); the ties are given (Qxb6612983aFmtTie.lean); close each card by the builder's one call (the guide's Derived/Test/ToyasCard.lean, 'card_holds'). Laid BY PROGRAM, IN A SANDBOX (cutbox-door.mjs). By AI agents, Wed Nov 11 2026. No macro, syntax, notation, axiom, sorry.
-/
import Derived.Test.Qxb6612983aFmtRows
import GoSem.ClaimSeven
namespace Go.Proofs.Qxb6612983aFmt
namespace Rows

/-- THE TOLD CARD OF 'zzlaws_jsoncodec_b1.FnCloseBalancesOpens'. -/
def fnCloseBalancesOpensCard : Claim7 := { stood := { row := fnCloseBalancesOpensRow, standIns := [], harness := (true, "4b938cf1f5f9c666f37c028e311b8c8255db7452ee48fa94ef53e698c7382a53"), looks := false }, told := true, goes := false }
def FnCloseBalancesOpensToldSaid : Prop := Claim7.holds Tryf.pinned (.plain (OpenSpec.ofChange fnCloseBalancesOpensSpec)) fnCloseBalancesOpensCard
/-- ITS FALSE NEIGHBOUR. Refute it at one input. -/
def FnCloseBalancesOpensToldWrongFalsely : Prop := Claim7.holds Tryf.pinned (.plain (OpenSpec.ofChange fnCloseBalancesOpensWrong)) fnCloseBalancesOpensCard

/-- THE TOLD AND TIED CARD OF 'zzlaws_jsoncodec_b1.FnStringUnquotesAsJSON'. -/
def fnStringUnquotesAsJSONCard : Claim7 := { stood := { row := fnStringUnquotesAsJSONRow, standIns := [], harness := (true, "4b938cf1f5f9c666f37c028e311b8c8255db7452ee48fa94ef53e698c7382a53"), looks := false }, told := true, laidByText := true, laidKinds := [.data, .data, .called, .pinned], laidTests := true, laidLooks := .later, goes := false }
def FnStringUnquotesAsJSONToldSaid : Prop := Claim7.holds Tryf.pinned (.plain (OpenSpec.ofChange fnStringUnquotesAsJSONSpec)) fnStringUnquotesAsJSONCard
/-- ITS FALSE NEIGHBOUR. Refute it at one input. -/
def FnStringUnquotesAsJSONToldWrongFalsely : Prop := Claim7.holds Tryf.pinned (.plain (OpenSpec.ofChange fnStringUnquotesAsJSONWrong)) fnStringUnquotesAsJSONCard

/-- THE TOLD AND TIED CARD OF 'zzlaws_jsoncodec_b1.FnStringAgreesWithSkipString'. -/
def fnStringAgreesWithSkipStringCard : Claim7 := { stood := { row := fnStringAgreesWithSkipStringRow, standIns := [], harness := (true, "4b938cf1f5f9c666f37c028e311b8c8255db7452ee48fa94ef53e698c7382a53"), looks := false }, told := true, laidByText := true, laidKinds := [.data, .data, .called, .pinned], laidTests := true, laidLooks := .later, goes := false }
def FnStringAgreesWithSkipStringToldSaid : Prop := Claim7.holds Tryf.pinned (.plain (OpenSpec.ofChange fnStringAgreesWithSkipStringSpec)) fnStringAgreesWithSkipStringCard
/-- ITS FALSE NEIGHBOUR. Refute it at one input. -/
def FnStringAgreesWithSkipStringToldWrongFalsely : Prop := Claim7.holds Tryf.pinned (.plain (OpenSpec.ofChange fnStringAgreesWithSkipStringWrong)) fnStringAgreesWithSkipStringCard

/-- THE TOLD AND TIED CARD OF 'zzlaws_jsoncodec_b1.FnObjectReadsNothingPastItsBrace'. -/
def fnObjectReadsNothingPastItsBraceCard : Claim7 := { stood := { row := fnObjectReadsNothingPastItsBraceRow, standIns := [], harness := (true, "4b938cf1f5f9c666f37c028e311b8c8255db7452ee48fa94ef53e698c7382a53"), looks := false }, told := true, laidByText := true, laidKinds := [.data, .data, .called, .pinned], laidTests := true, laidLooks := .later, goes := false }
def FnObjectReadsNothingPastItsBraceToldSaid : Prop := Claim7.holds Tryf.pinned (.plain (OpenSpec.ofChange fnObjectReadsNothingPastItsBraceSpec)) fnObjectReadsNothingPastItsBraceCard
/-- ITS FALSE NEIGHBOUR. Refute it at one input. -/
def FnObjectReadsNothingPastItsBraceToldWrongFalsely : Prop := Claim7.holds Tryf.pinned (.plain (OpenSpec.ofChange fnObjectReadsNothingPastItsBraceWrong)) fnObjectReadsNothingPastItsBraceCard
end Rows
end Go.Proofs.Qxb6612983aFmt

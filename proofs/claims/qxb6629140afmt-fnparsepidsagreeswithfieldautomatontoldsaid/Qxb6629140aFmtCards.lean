/-
  DERIVED. GIVEN WITH THE SEED: THE CARDS: each row of Qxb6629140aFmtRows.lean that lists a variable, with what it lists TIED to the program's text (the seventh form; the later family's looks); each row that meets fmt, with fmt's text TOLD by the authors' own Lean function (tested against real Go, not proved from fmt's source: count such statements apart). THE CARD IS WHAT COUNTS. Prove the row's statement (the work); the ties are given (Qxb6629140aFmtTie.lean); close each card by the builder's one call (the guide's Derived/Test/ToyasCard.lean, 'card_holds'). Laid BY PROGRAM, IN A SANDBOX (cutbox-door.mjs). By AI agents, Wed Nov 11 2026. No macro, syntax, notation, axiom, sorry.
-/
import Derived.Test.Qxb6629140aFmtRows
import GoSem.ClaimSeven
namespace Go.Proofs.Qxb6629140aFmt
namespace Rows

/-- THE TOLD AND TIED CARD OF 'zzlaws_internal_rules_b1.FnParsePidsAgreesWithFieldAutomaton'. -/
def fnParsePidsAgreesWithFieldAutomatonCard : Claim7 := { stood := { row := fnParsePidsAgreesWithFieldAutomatonRow, standIns := [], harness := (true, "3084e38a0a7fc0d4f36a488fd226a8fcc2847c52148fd87559f6cc3ee1b8727a"), looks := true }, told := true, laidByText := true, laidKinds := [.data, .data, .data, .sentinel, .sentinel, .listed, .data], laidTests := true, laidLooks := .later, goes := false }
def FnParsePidsAgreesWithFieldAutomatonToldSaid : Prop := Claim7.holds Tryf.pinned (.plain (OpenSpec.ofChange fnParsePidsAgreesWithFieldAutomatonSpec)) fnParsePidsAgreesWithFieldAutomatonCard
/-- ITS FALSE NEIGHBOUR. Refute it at one input. -/
def FnParsePidsAgreesWithFieldAutomatonToldWrongFalsely : Prop := Claim7.holds Tryf.pinned (.plain (OpenSpec.ofChange fnParsePidsAgreesWithFieldAutomatonWrong)) fnParsePidsAgreesWithFieldAutomatonCard

/-- THE TOLD AND TIED CARD OF 'zzlaws_internal_rules_b1.FnParsePidsInsertAnyPidBetweenParts'. -/
def fnParsePidsInsertAnyPidBetweenPartsCard : Claim7 := { stood := { row := fnParsePidsInsertAnyPidBetweenPartsRow, standIns := [], harness := (true, "3084e38a0a7fc0d4f36a488fd226a8fcc2847c52148fd87559f6cc3ee1b8727a"), looks := true }, told := true, laidByText := true, laidKinds := [.data, .data, .data, .sentinel, .sentinel, .listed, .data], laidTests := true, laidLooks := .later, goes := false }
def FnParsePidsInsertAnyPidBetweenPartsToldSaid : Prop := Claim7.holds Tryf.pinned (.plain (OpenSpec.ofChange fnParsePidsInsertAnyPidBetweenPartsSpec)) fnParsePidsInsertAnyPidBetweenPartsCard
/-- ITS FALSE NEIGHBOUR. Refute it at one input. -/
def FnParsePidsInsertAnyPidBetweenPartsToldWrongFalsely : Prop := Claim7.holds Tryf.pinned (.plain (OpenSpec.ofChange fnParsePidsInsertAnyPidBetweenPartsWrong)) fnParsePidsInsertAnyPidBetweenPartsCard
end Rows
end Go.Proofs.Qxb6629140aFmt

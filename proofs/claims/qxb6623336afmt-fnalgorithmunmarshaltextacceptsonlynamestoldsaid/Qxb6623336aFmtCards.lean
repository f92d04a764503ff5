/-
  DERIVED. GIVEN WITH THE SEED: THE CARDS: each row of Qxb6623336aFmtRows.lean that lists a variable, with what it lists TIED to the program's text (the seventh form; the later family's looks); each row that meets fmt, with fmt's text TOLD by the authors' own Lean function (tested against real Go, not proved from fmt's source: count such statements apart). THE CARD IS WHAT COUNTS. Prove the row's statement (the work); the ties are given (Qxb6623336aFmtTie.lean); close each card by the builder's one call (the guide's Derived/Test/ToyasCard.lean, 'card_holds'). Laid BY PROGRAM, IN A SANDBOX (cutbox-door.mjs). By AI agents, Wed Nov 11 2026. No macro, syntax, notation, axiom, sorry.
-/
import Derived.Test.Qxb6623336aFmtRows
import GoSem.ClaimSeven
namespace Go.Proofs.Qxb6623336aFmt
namespace Rows

/-- THE TOLD AND TIED CARD OF 'zzlaws_internal_jwt_jwk_e1.FnAlgorithmUnmarshalTextReadsString'. -/
def fnAlgorithmUnmarshalTextReadsStringCard : Claim7 := { stood := { row := fnAlgorithmUnmarshalTextReadsStringRow, standIns := [], harness := (true, "973926851507949d7063bb89c2dc23832eca114430812973290370f173f3561f"), looks := false }, told := true, laidByText := true, laidKinds := [.data, .data, .data], laidTests := true, laidLooks := .later, goes := false }
def FnAlgorithmUnmarshalTextReadsStringToldSaid : Prop := Claim7.holds Tryf.pinned (.plain (OpenSpec.ofChange fnAlgorithmUnmarshalTextReadsStringSpec)) fnAlgorithmUnmarshalTextReadsStringCard
/-- ITS FALSE NEIGHBOUR. Refute it at one input. -/
def FnAlgorithmUnmarshalTextReadsStringToldWrongFalsely : Prop := Claim7.holds Tryf.pinned (.plain (OpenSpec.ofChange fnAlgorithmUnmarshalTextReadsStringWrong)) fnAlgorithmUnmarshalTextReadsStringCard

/-- THE TOLD AND TIED CARD OF 'zzlaws_internal_jwt_jwk_e1.FnAlgorithmUnmarshalTextAcceptsOnlyNames'. -/
def fnAlgorithmUnmarshalTextAcceptsOnlyNamesCard : Claim7 := { stood := { row := fnAlgorithmUnmarshalTextAcceptsOnlyNamesRow, standIns := [], harness := (true, "973926851507949d7063bb89c2dc23832eca114430812973290370f173f3561f"), looks := false }, told := true, laidByText := true, laidKinds := [.data, .data, .data], laidTests := true, laidLooks := .later, goes := false }
def FnAlgorithmUnmarshalTextAcceptsOnlyNamesToldSaid : Prop := Claim7.holds Tryf.pinned (.plain (OpenSpec.ofChange fnAlgorithmUnmarshalTextAcceptsOnlyNamesSpec)) fnAlgorithmUnmarshalTextAcceptsOnlyNamesCard
/-- ITS FALSE NEIGHBOUR. Refute it at one input. -/
def FnAlgorithmUnmarshalTextAcceptsOnlyNamesToldWrongFalsely : Prop := Claim7.holds Tryf.pinned (.plain (OpenSpec.ofChange fnAlgorithmUnmarshalTextAcceptsOnlyNamesWrong)) fnAlgorithmUnmarshalTextAcceptsOnlyNamesCard
end Rows
end Go.Proofs.Qxb6623336aFmt

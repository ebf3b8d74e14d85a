/-
  DERIVED. GIVEN WITH THE SEED: THE CARDS: each row of Qxb6609453aFmtRows.lean that lists a variable, with what it lists TIED to the program's text (the seventh form; the later family's looks); each row that meets fmt, with fmt's text TOLD by the authors' own Lean function (tested against real Go, not proved from fmt's source: count such statements apart). THE CARD IS WHAT COUNTS. Prove the row's statement (the work); the ties are given (Qxb6609453aFmtTie.lean); close each card by the builder's one call (the guide's Derived/Test/ToyasCard.lean, 'card_holds'). Laid BY PROGRAM, IN A SANDBOX (cutbox-door.mjs). By AI agents, Wed Nov 11 2026. No macro, syntax, notation, axiom, sorry.
-/
import Derived.Test.Qxb6609453aFmtRows
import GoSem.ClaimSeven
namespace Go.Proofs.Qxb6609453aFmt
namespace Rows

/-- THE TOLD CARD OF 'zzlaws_parser_b1.FnCreatesTableAsReadsBuiltStatement'. -/
def fnCreatesTableAsReadsBuiltStatementCard : Claim7 := { stood := { row := fnCreatesTableAsReadsBuiltStatementRow, standIns := [], harness := (true, "c35fa03fa018c4be9de9a7f81a73adf139114083b99dc4d047ddc5c3100de3e9"), looks := false }, told := true, goes := false }
def FnCreatesTableAsReadsBuiltStatementToldSaid : Prop := Claim7.holds Tryf.pinned (.plain (OpenSpec.ofChange fnCreatesTableAsReadsBuiltStatementSpec)) fnCreatesTableAsReadsBuiltStatementCard
/-- ITS FALSE NEIGHBOUR. Refute it at one input. -/
def FnCreatesTableAsReadsBuiltStatementToldWrongFalsely : Prop := Claim7.holds Tryf.pinned (.plain (OpenSpec.ofChange fnCreatesTableAsReadsBuiltStatementWrong)) fnCreatesTableAsReadsBuiltStatementCard

/-- THE TOLD AND TIED CARD OF 'zzlaws_parser_b1.FnTargetReadsBuiltStatement'. -/
def fnTargetReadsBuiltStatementCard : Claim7 := { stood := { row := fnTargetReadsBuiltStatementRow, standIns := [], harness := (true, "c35fa03fa018c4be9de9a7f81a73adf139114083b99dc4d047ddc5c3100de3e9"), looks := false }, told := true, laidByText := true, laidKinds := [.mapped], laidTests := true, laidLooks := .later, goes := false }
def FnTargetReadsBuiltStatementToldSaid : Prop := Claim7.holds Tryf.pinned (.plain (OpenSpec.ofChange fnTargetReadsBuiltStatementSpec)) fnTargetReadsBuiltStatementCard
/-- ITS FALSE NEIGHBOUR. Refute it at one input. -/
def FnTargetReadsBuiltStatementToldWrongFalsely : Prop := Claim7.holds Tryf.pinned (.plain (OpenSpec.ofChange fnTargetReadsBuiltStatementWrong)) fnTargetReadsBuiltStatementCard
end Rows
end Go.Proofs.Qxb6609453aFmt

/-
  NARROWER THAN 'FOR EVERY INPUT', by the rows' own cells (each row's printed sentence says how): FnTargetReadsBuiltStatement: maps, laid.
  DERIVED. THE GIVEN ROWS OF THIS SEAT. 2 by the template 'for every input the law returns true; each argument reads behind the call as it read before'; 0 by the template 'total and deterministic' (their statements: Qxb6609453aFmtTotals.lean).
  GIVEN WITH THE SEED: the statements are not yours to turn. If you find one false, say at which input.
  Laid BY PROGRAM, IN A SANDBOX (cutbox-rows.mjs): the forced cells as the released guide's own fill.sh prints them over the translation e7258ec5f56bd717… (all of the seat's roots in one cut). By AI agents, Wed Nov 11 2026. No macro, syntax, notation, axiom, sorry.
-/
import Derived.Test.Qxb6609453aFmtChecked
import GoSem.Claim
import GoSem.ClaimJoined
import GoSem.ClaimMapViews
import Derived.JoinedTies
import Derived.KernelRfl
namespace Go.Proofs.Qxb6609453aFmt
/- THE CELL 'sum', in the pinned program and in every row, IS THE sha256 OF THE DUMP (.gsa) THAT Qxb6609453aFmtProg.lean LOADS. Nothing in Lean hashes anything: it is a label: what it is worth is what the hold of that sum in a sandbox is worth. -/
noncomputable def Tryf.pinned : Pinned := { name := "qxb6609453afmt", sum := "e7258ec5f56bd717704f5ef5d263438ed73b709de2945a0e59e98c0aa8af8740", checked := Tryf.checked }
namespace Rows
def none {H : Type} : Left H := { results := [], args := [] }

/- WHAT THE LISTED PACKAGE-LEVEL VARIABLES READ AS WHEN THE CALL BEGINS. Each datum BY PROGRAM (the guide's laid-datum.mjs) off the statement by which the dump's own 'gosem.cut.vars' lays the variable. In a bare row this is a premise. The card (Qxb6609453aFmtCards.lean) ties it to the program's text. -/
def laid_example_com_cellmesh_cellmesh_parser_clauseWords {H : Type} : DataW H := .map [(.string [99, 114, 111, 115, 115], .lit (.bool true)), (.string [101, 120, 99, 101, 112, 116], .lit (.bool true)), (.string [102, 101, 116, 99, 104], .lit (.bool true)), (.string [102, 111, 114], .lit (.bool true)), (.string [102, 117, 108, 108], .lit (.bool true)), (.string [103, 114, 111, 117, 112], .lit (.bool true)), (.string [104, 97, 118, 105, 110, 103], .lit (.bool true)), (.string [105, 110, 110, 101, 114], .lit (.bool true)), (.string [105, 110, 116, 101, 114, 115, 101, 99, 116], .lit (.bool true)), (.string [106, 111, 105, 110], .lit (.bool true)), (.string [108, 101, 102, 116], .lit (.bool true)), (.string [108, 105, 109, 105, 116], .lit (.bool true)), (.string [110, 97, 116, 117, 114, 97, 108], .lit (.bool true)), (.string [111, 102, 102, 115, 101, 116], .lit (.bool true)), (.string [111, 110], .lit (.bool true)), (.string [111, 114, 100, 101, 114], .lit (.bool true)), (.string [114, 101, 116, 117, 114, 110, 105, 110, 103], .lit (.bool true)), (.string [114, 105, 103, 104, 116], .lit (.bool true)), (.string [117, 110, 105, 111, 110], .lit (.bool true)), (.string [117, 115, 105, 110, 103], .lit (.bool true)), (.string [119, 104, 101, 114, 101], .lit (.bool true)), (.string [119, 105, 110, 100, 111, 119], .lit (.bool true))]

/-- 'zzlaws_parser_b1.FnCreatesTableAsReadsBuiltStatement': WHATEVER THE INPUT: true; the input reads as it did. -/
def fnCreatesTableAsReadsBuiltStatementSpec : ChangeSpec := { name := "fnCreatesTableAsReadsBuiltStatement", fn := fun _ => fun
  | [d1, d2, d3, d4, d5, d6] => { results := [.lit (.bool true)], args := [d1, d2, d3, d4, d5, d6] }
  | _ => none }
def fnCreatesTableAsReadsBuiltStatementRow : OpenClaim := { program := "qxb6609453afmt", sum := "e7258ec5f56bd717704f5ef5d263438ed73b709de2945a0e59e98c0aa8af8740", func := "example.com/cellmesh/cellmesh/zzlaws_parser_b1.FnCreatesTableAsReadsBuiltStatement", spec := "fnCreatesTableAsReadsBuiltStatement", stops := ["fmt.errorf"], inPlace := ["fmt.errorf"], apart := false }
/-- NO THEOREM (fmt's text is open here; it may be false): for the released tool's asking of the row's closed facts alone. THE STATEMENT IS 'FnCreatesTableAsReadsBuiltStatementToldSaid' (Qxb6609453aFmtCards.lean). -/
def FnCreatesTableAsReadsBuiltStatementFormAsk : Prop := fnCreatesTableAsReadsBuiltStatementRow.holds Tryf.pinned (OpenSpec.ofChange fnCreatesTableAsReadsBuiltStatementSpec)

/-- ITS FALSE NEIGHBOUR: 'it returns false'. Refute it at one input. -/
def fnCreatesTableAsReadsBuiltStatementWrong : ChangeSpec := { name := "fnCreatesTableAsReadsBuiltStatement", fn := fun _ => fun
  | [d1, d2, d3, d4, d5, d6] => { results := [.lit (.bool false)], args := [d1, d2, d3, d4, d5, d6] }
  | _ => none }
def FnCreatesTableAsReadsBuiltStatementWrongFormAsk : Prop := fnCreatesTableAsReadsBuiltStatementRow.holds Tryf.pinned (OpenSpec.ofChange fnCreatesTableAsReadsBuiltStatementWrong)

/-- 'zzlaws_parser_b1.FnTargetReadsBuiltStatement': WHATEVER THE INPUT: true; the input reads as it did. -/
def fnTargetReadsBuiltStatementSpec : ChangeSpec := { name := "fnTargetReadsBuiltStatement", vars := ["example.com/cellmesh/cellmesh/parser.clauseWords"], fn := fun _ => fun
  | [d1, d2, d3, d4, d5, d6, d7, g1] => { results := [.lit (.bool true)], args := [d1, d2, d3, d4, d5, d6, d7], vars := [g1] }
  | _ => none }
def fnTargetReadsBuiltStatementRow : OpenClaim := { program := "qxb6609453afmt", sum := "e7258ec5f56bd717704f5ef5d263438ed73b709de2945a0e59e98c0aa8af8740", func := "example.com/cellmesh/cellmesh/zzlaws_parser_b1.FnTargetReadsBuiltStatement", spec := "fnTargetReadsBuiltStatement", stops := ["fmt.errorf"], inPlace := ["fmt.errorf"], unfollowed := true, recurses := true, named := ["example.com/cellmesh/cellmesh/parser.clauseWords"], maps := true, apart := false, laid := [("example.com/cellmesh/cellmesh/parser.clauseWords", laid_example_com_cellmesh_cellmesh_parser_clauseWords)] }
/-- NO THEOREM (fmt's text is open here; it may be false): for the released tool's asking of the row's closed facts alone. THE STATEMENT IS 'FnTargetReadsBuiltStatementToldSaid' (Qxb6609453aFmtCards.lean). -/
def FnTargetReadsBuiltStatementFormAsk : Prop := fnTargetReadsBuiltStatementRow.holds Tryf.pinned (OpenSpec.ofChange fnTargetReadsBuiltStatementSpec)

/-- ITS FALSE NEIGHBOUR: 'it returns false'. Refute it at one input. -/
def fnTargetReadsBuiltStatementWrong : ChangeSpec := { name := "fnTargetReadsBuiltStatement", vars := ["example.com/cellmesh/cellmesh/parser.clauseWords"], fn := fun _ => fun
  | [d1, d2, d3, d4, d5, d6, d7, g1] => { results := [.lit (.bool false)], args := [d1, d2, d3, d4, d5, d6, d7], vars := [g1] }
  | _ => none }
def FnTargetReadsBuiltStatementWrongFormAsk : Prop := fnTargetReadsBuiltStatementRow.holds Tryf.pinned (OpenSpec.ofChange fnTargetReadsBuiltStatementWrong)

end Rows
end Go.Proofs.Qxb6609453aFmt

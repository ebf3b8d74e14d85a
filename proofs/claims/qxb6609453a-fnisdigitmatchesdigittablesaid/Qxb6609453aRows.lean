/-
  No cell of these rows narrows 'for every input' (looked for: loops, veiled, ifaces, maps, wideKeys, modest, calm, conditions, laid).
  DERIVED. THE GIVEN ROWS OF THIS SEAT. 2 by the template 'for every input the law returns true; each argument reads behind the call as it read before'; 0 by the template 'total and deterministic' (their statements: Qxb6609453aTotals.lean).
  GIVEN WITH THE SEED: the statements are not yours to turn. If you find one false, say at which input.
  Laid BY PROGRAM, IN A SANDBOX (cutbox-rows.mjs): the forced cells as the released guide's own fill.sh prints them over the translation e3263363027dc535… (all of the seat's roots in one cut). By AI agents, Wed Nov 11 2026. No macro, syntax, notation, axiom, sorry.
-/
import Derived.Test.Qxb6609453aChecked
import GoSem.Claim
import GoSem.ClaimJoined
import GoSem.ClaimMapViews
import Derived.JoinedTies
import Derived.KernelRfl
namespace Go.Proofs.Qxb6609453a
/- THE CELL 'sum', in the pinned program and in every row, IS THE sha256 OF THE DUMP (.gsa) THAT Qxb6609453aProg.lean LOADS. Nothing in Lean hashes anything: it is a label: what it is worth is what the hold of that sum in a sandbox is worth. -/
noncomputable def Try.pinned : Pinned := { name := "qxb6609453a", sum := "e3263363027dc535cc82db6e70e922f7c4877e16031bb8a8293cd28a78e24a99", checked := Try.checked }
namespace Rows
def none {H : Type} : Left H := { results := [], args := [] }

/-- 'zzlaws_parser_b1.FnIsDigitMatchesDigitTable': WHATEVER THE INPUT: true; the input reads as it did. -/
def fnIsDigitMatchesDigitTableSpec : ChangeSpec := { name := "fnIsDigitMatchesDigitTable", fn := fun _ => fun
  | [d] => { results := [.lit (.bool true)], args := [d] }
  | _ => none }
def fnIsDigitMatchesDigitTableRow : OpenClaim := { program := "qxb6609453a", sum := "e3263363027dc535cc82db6e70e922f7c4877e16031bb8a8293cd28a78e24a99", func := "example.com/cellmesh/cellmesh/zzlaws_parser_b1.FnIsDigitMatchesDigitTable", spec := "fnIsDigitMatchesDigitTable", apart := false }
def FnIsDigitMatchesDigitTableSaid : Prop := fnIsDigitMatchesDigitTableRow.holds Try.pinned (OpenSpec.ofChange fnIsDigitMatchesDigitTableSpec)

/-- ITS FALSE NEIGHBOUR: 'it returns false'. Refute it at one input. -/
def fnIsDigitMatchesDigitTableWrong : ChangeSpec := { name := "fnIsDigitMatchesDigitTable", fn := fun _ => fun
  | [d] => { results := [.lit (.bool false)], args := [d] }
  | _ => none }
def FnIsDigitMatchesDigitTableWrongFalsely : Prop := fnIsDigitMatchesDigitTableRow.holds Try.pinned (OpenSpec.ofChange fnIsDigitMatchesDigitTableWrong)

/-- 'zzlaws_parser_b1.FnIsDigitCountUpTo': WHATEVER THE INPUT: true; the input reads as it did. -/
def fnIsDigitCountUpToSpec : ChangeSpec := { name := "fnIsDigitCountUpTo", fn := fun _ => fun
  | [d] => { results := [.lit (.bool true)], args := [d] }
  | _ => none }
def fnIsDigitCountUpToRow : OpenClaim := { program := "qxb6609453a", sum := "e3263363027dc535cc82db6e70e922f7c4877e16031bb8a8293cd28a78e24a99", func := "example.com/cellmesh/cellmesh/zzlaws_parser_b1.FnIsDigitCountUpTo", spec := "fnIsDigitCountUpTo", apart := false }
def FnIsDigitCountUpToSaid : Prop := fnIsDigitCountUpToRow.holds Try.pinned (OpenSpec.ofChange fnIsDigitCountUpToSpec)

/-- ITS FALSE NEIGHBOUR: 'it returns false'. Refute it at one input. -/
def fnIsDigitCountUpToWrong : ChangeSpec := { name := "fnIsDigitCountUpTo", fn := fun _ => fun
  | [d] => { results := [.lit (.bool false)], args := [d] }
  | _ => none }
def FnIsDigitCountUpToWrongFalsely : Prop := fnIsDigitCountUpToRow.holds Try.pinned (OpenSpec.ofChange fnIsDigitCountUpToWrong)

end Rows
end Go.Proofs.Qxb6609453a

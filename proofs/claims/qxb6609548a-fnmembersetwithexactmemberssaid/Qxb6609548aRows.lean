/-
  No cell of these rows narrows 'for every input' (looked for: loops, veiled, ifaces, maps, wideKeys, modest, calm, conditions, laid).
  DERIVED. THE GIVEN ROWS OF THIS SEAT. 2 by the template 'for every input the law returns true; each argument reads behind the call as it read before'; 0 by the template 'total and deterministic' (their statements: Qxb6609548aTotals.lean).
  GIVEN WITH THE SEED: the statements are not yours to turn. If you find one false, say at which input.
  Laid BY PROGRAM, IN A SANDBOX (cutbox-rows.mjs): the forced cells as the released guide's own fill.sh prints them over the translation f59f68616182600e… (all of the seat's roots in one cut). By AI agents, Wed Nov 11 2026. No macro, syntax, notation, axiom, sorry.
-/
import Derived.Test.Qxb6609548aChecked
import GoSem.Claim
import GoSem.ClaimJoined
import GoSem.ClaimMapViews
import Derived.JoinedTies
import Derived.KernelRfl
namespace Go.Proofs.Qxb6609548a
/- THE CELL 'sum', in the pinned program and in every row, IS THE sha256 OF THE DUMP (.gsa) THAT Qxb6609548aProg.lean LOADS. Nothing in Lean hashes anything: it is a label: what it is worth is what the hold of that sum in a sandbox is worth. -/
noncomputable def Try.pinned : Pinned := { name := "qxb6609548a", sum := "f59f68616182600ef4377994724543d7b104a4db5b423e665c54dc29c703185c", checked := Try.checked }
namespace Rows
def none {H : Type} : Left H := { results := [], args := [] }

/-- 'zzlaws_internal_httpapi_b1.FnMemberSetWithExactMembers': WHATEVER THE INPUT: true; the input reads as it did. -/
def fnMemberSetWithExactMembersSpec : ChangeSpec := { name := "fnMemberSetWithExactMembers", fn := fun _ => fun
  | [d1, d2] => { results := [.lit (.bool true)], args := [d1, d2] }
  | _ => none }
def fnMemberSetWithExactMembersRow : OpenClaim := { program := "qxb6609548a", sum := "f59f68616182600ef4377994724543d7b104a4db5b423e665c54dc29c703185c", func := "example.com/sanction/sanction/zzlaws_internal_httpapi_b1.FnMemberSetWithExactMembers", spec := "fnMemberSetWithExactMembers", apart := false }
def FnMemberSetWithExactMembersSaid : Prop := fnMemberSetWithExactMembersRow.holds Try.pinned (OpenSpec.ofChange fnMemberSetWithExactMembersSpec)

/-- ITS FALSE NEIGHBOUR: 'it returns false'. Refute it at one input. -/
def fnMemberSetWithExactMembersWrong : ChangeSpec := { name := "fnMemberSetWithExactMembers", fn := fun _ => fun
  | [d1, d2] => { results := [.lit (.bool false)], args := [d1, d2] }
  | _ => none }
def FnMemberSetWithExactMembersWrongFalsely : Prop := fnMemberSetWithExactMembersRow.holds Try.pinned (OpenSpec.ofChange fnMemberSetWithExactMembersWrong)

/-- 'zzlaws_internal_httpapi_b1.FnMemberSetWithOrderFreeAndCounted': WHATEVER THE INPUT: true; the input reads as it did. -/
def fnMemberSetWithOrderFreeAndCountedSpec : ChangeSpec := { name := "fnMemberSetWithOrderFreeAndCounted", fn := fun _ => fun
  | [d1, d2, d3] => { results := [.lit (.bool true)], args := [d1, d2, d3] }
  | _ => none }
def fnMemberSetWithOrderFreeAndCountedRow : OpenClaim := { program := "qxb6609548a", sum := "f59f68616182600ef4377994724543d7b104a4db5b423e665c54dc29c703185c", func := "example.com/sanction/sanction/zzlaws_internal_httpapi_b1.FnMemberSetWithOrderFreeAndCounted", spec := "fnMemberSetWithOrderFreeAndCounted", apart := false }
def FnMemberSetWithOrderFreeAndCountedSaid : Prop := fnMemberSetWithOrderFreeAndCountedRow.holds Try.pinned (OpenSpec.ofChange fnMemberSetWithOrderFreeAndCountedSpec)

/-- ITS FALSE NEIGHBOUR: 'it returns false'. Refute it at one input. -/
def fnMemberSetWithOrderFreeAndCountedWrong : ChangeSpec := { name := "fnMemberSetWithOrderFreeAndCounted", fn := fun _ => fun
  | [d1, d2, d3] => { results := [.lit (.bool false)], args := [d1, d2, d3] }
  | _ => none }
def FnMemberSetWithOrderFreeAndCountedWrongFalsely : Prop := fnMemberSetWithOrderFreeAndCountedRow.holds Try.pinned (OpenSpec.ofChange fnMemberSetWithOrderFreeAndCountedWrong)

end Rows
end Go.Proofs.Qxb6609548a

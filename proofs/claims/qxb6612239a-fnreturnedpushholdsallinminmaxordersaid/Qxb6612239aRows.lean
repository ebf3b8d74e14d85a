/-
  No cell of these rows narrows 'for every input' (looked for: loops, veiled, ifaces, maps, wideKeys, modest, calm, conditions, laid).
  DERIVED. THE GIVEN ROWS OF THIS SEAT. 2 by the template 'for every input the law returns true; each argument reads behind the call as it read before'; 0 by the template 'total and deterministic' (their statements: Qxb6612239aTotals.lean).
  GIVEN WITH THE SEED: the statements are not yours to turn. If you find one false, say at which input.
  Laid BY PROGRAM, IN A SANDBOX (cutbox-rows.mjs): the forced cells as the released guide's own fill.sh prints them over the translation ffd877480fd8f8fc… (all of the seat's roots in one cut). By AI agents, Wed Nov 11 2026. No macro, syntax, notation, axiom, sorry.
-/
import Derived.Test.Qxb6612239aChecked
import GoSem.Claim
import GoSem.ClaimJoined
import GoSem.ClaimMapViews
import Derived.JoinedTies
import Derived.KernelRfl
namespace Go.Proofs.Qxb6612239a
/- THE CELL 'sum', in the pinned program and in every row, IS THE sha256 OF THE DUMP (.gsa) THAT Qxb6612239aProg.lean LOADS. Nothing in Lean hashes anything: it is a label: what it is worth is what the hold of that sum in a sandbox is worth. -/
noncomputable def Try.pinned : Pinned := { name := "qxb6612239a", sum := "ffd877480fd8f8fc3f3438d3b9f088e17b3de77dba0e231d832c33d0e97f1aac", checked := Try.checked }
namespace Rows
def none {H : Type} : Left H := { results := [], args := [] }

/-- 'zzlaws_root_b1.FnReturnedPushHoldsAllInMinMaxOrder': WHATEVER THE INPUT: true; the input reads as it did. -/
def fnReturnedPushHoldsAllInMinMaxOrderSpec : ChangeSpec := { name := "fnReturnedPushHoldsAllInMinMaxOrder", fn := fun _ => fun
  | [d] => { results := [.lit (.bool true)], args := [d] }
  | _ => none }
def fnReturnedPushHoldsAllInMinMaxOrderRow : OpenClaim := { program := "qxb6612239a", sum := "ffd877480fd8f8fc3f3438d3b9f088e17b3de77dba0e231d832c33d0e97f1aac", func := "example.com/tidegate/tidegate/zzlaws_root_b1.FnReturnedPushHoldsAllInMinMaxOrder", spec := "fnReturnedPushHoldsAllInMinMaxOrder", apart := false }
def FnReturnedPushHoldsAllInMinMaxOrderSaid : Prop := fnReturnedPushHoldsAllInMinMaxOrderRow.holds Try.pinned (OpenSpec.ofChange fnReturnedPushHoldsAllInMinMaxOrderSpec)

/-- ITS FALSE NEIGHBOUR: 'it returns false'. Refute it at one input. -/
def fnReturnedPushHoldsAllInMinMaxOrderWrong : ChangeSpec := { name := "fnReturnedPushHoldsAllInMinMaxOrder", fn := fun _ => fun
  | [d] => { results := [.lit (.bool false)], args := [d] }
  | _ => none }
def FnReturnedPushHoldsAllInMinMaxOrderWrongFalsely : Prop := fnReturnedPushHoldsAllInMinMaxOrderRow.holds Try.pinned (OpenSpec.ofChange fnReturnedPushHoldsAllInMinMaxOrderWrong)

/-- 'zzlaws_root_b1.FnReturnedPushTracksEarliestAndLatest': WHATEVER THE INPUT: true; the input reads as it did. -/
def fnReturnedPushTracksEarliestAndLatestSpec : ChangeSpec := { name := "fnReturnedPushTracksEarliestAndLatest", fn := fun _ => fun
  | [d] => { results := [.lit (.bool true)], args := [d] }
  | _ => none }
def fnReturnedPushTracksEarliestAndLatestRow : OpenClaim := { program := "qxb6612239a", sum := "ffd877480fd8f8fc3f3438d3b9f088e17b3de77dba0e231d832c33d0e97f1aac", func := "example.com/tidegate/tidegate/zzlaws_root_b1.FnReturnedPushTracksEarliestAndLatest", spec := "fnReturnedPushTracksEarliestAndLatest", apart := false }
def FnReturnedPushTracksEarliestAndLatestSaid : Prop := fnReturnedPushTracksEarliestAndLatestRow.holds Try.pinned (OpenSpec.ofChange fnReturnedPushTracksEarliestAndLatestSpec)

/-- ITS FALSE NEIGHBOUR: 'it returns false'. Refute it at one input. -/
def fnReturnedPushTracksEarliestAndLatestWrong : ChangeSpec := { name := "fnReturnedPushTracksEarliestAndLatest", fn := fun _ => fun
  | [d] => { results := [.lit (.bool false)], args := [d] }
  | _ => none }
def FnReturnedPushTracksEarliestAndLatestWrongFalsely : Prop := fnReturnedPushTracksEarliestAndLatestRow.holds Try.pinned (OpenSpec.ofChange fnReturnedPushTracksEarliestAndLatestWrong)

end Rows
end Go.Proofs.Qxb6612239a

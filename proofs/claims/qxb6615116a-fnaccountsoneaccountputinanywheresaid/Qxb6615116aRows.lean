/-
  No cell of these rows narrows 'for every input' (looked for: loops, veiled, ifaces, maps, wideKeys, modest, calm, conditions, laid).
  DERIVED. THE GIVEN ROWS OF THIS SEAT. 2 by the template 'for every input the law returns true; each argument reads behind the call as it read before'; 0 by the template 'total and deterministic' (their statements: Qxb6615116aTotals.lean).
  GIVEN WITH THE SEED: the statements are not yours to turn. If you find one false, say at which input.
  Laid BY PROGRAM, IN A SANDBOX (cutbox-rows.mjs): the forced cells as the released guide's own fill.sh prints them over the translation 865753c7bcbea849… (all of the seat's roots in one cut). By AI agents, Wed Nov 11 2026. No macro, syntax, notation, axiom, sorry.
-/
import Derived.Test.Qxb6615116aChecked
import GoSem.Claim
import GoSem.ClaimJoined
import GoSem.ClaimMapViews
import Derived.JoinedTies
import Derived.KernelRfl
namespace Go.Proofs.Qxb6615116a
/- THE CELL 'sum', in the pinned program and in every row, IS THE sha256 OF THE DUMP (.gsa) THAT Qxb6615116aProg.lean LOADS. Nothing in Lean hashes anything: it is a label: what it is worth is what the hold of that sum in a sandbox is worth. -/
noncomputable def Try.pinned : Pinned := { name := "qxb6615116a", sum := "865753c7bcbea849c72aa4c5f0c38ad1e6dcc4d17aa0037fdbaf5a68f28cf5af", checked := Try.checked }
namespace Rows
def none {H : Type} : Left H := { results := [], args := [] }

/-- 'zzlaws_split_b1.FnAccountsOneAccountPutInAnywhere': WHATEVER THE INPUT: true; the input reads as it did. -/
def fnAccountsOneAccountPutInAnywhereSpec : ChangeSpec := { name := "fnAccountsOneAccountPutInAnywhere", fn := fun _ => fun
  | [d1, d2, d3, d4, d5] => { results := [.lit (.bool true)], args := [d1, d2, d3, d4, d5] }
  | _ => none }
def fnAccountsOneAccountPutInAnywhereRow : OpenClaim := { program := "qxb6615116a", sum := "865753c7bcbea849c72aa4c5f0c38ad1e6dcc4d17aa0037fdbaf5a68f28cf5af", func := "example.com/tallyshare/tallyshare/zzlaws_split_b1.FnAccountsOneAccountPutInAnywhere", spec := "fnAccountsOneAccountPutInAnywhere", inPlace := ["internal/reflectlite.ValueOf", "internal/reflectlite.Swapper", "(internal/reflectlite.Value).Len"], unfollowed := true, recurses := true, apart := false }
def FnAccountsOneAccountPutInAnywhereSaid : Prop := fnAccountsOneAccountPutInAnywhereRow.holds Try.pinned (OpenSpec.ofChange fnAccountsOneAccountPutInAnywhereSpec)

/-- ITS FALSE NEIGHBOUR: 'it returns false'. Refute it at one input. -/
def fnAccountsOneAccountPutInAnywhereWrong : ChangeSpec := { name := "fnAccountsOneAccountPutInAnywhere", fn := fun _ => fun
  | [d1, d2, d3, d4, d5] => { results := [.lit (.bool false)], args := [d1, d2, d3, d4, d5] }
  | _ => none }
def FnAccountsOneAccountPutInAnywhereWrongFalsely : Prop := fnAccountsOneAccountPutInAnywhereRow.holds Try.pinned (OpenSpec.ofChange fnAccountsOneAccountPutInAnywhereWrong)

/-- 'zzlaws_split_b1.FnAccountsAreTheWeighingOnesInNameOrderOverAnyCutOfColumns': WHATEVER THE INPUT: true; the input reads as it did. -/
def fnAccountsAreTheWeighingOnesInNameOrderOverAnyCutOfColumnsSpec : ChangeSpec := { name := "fnAccountsAreTheWeighingOnesInNameOrderOverAnyCutOfColumns", fn := fun _ => fun
  | [d1, d2, d3] => { results := [.lit (.bool true)], args := [d1, d2, d3] }
  | _ => none }
def fnAccountsAreTheWeighingOnesInNameOrderOverAnyCutOfColumnsRow : OpenClaim := { program := "qxb6615116a", sum := "865753c7bcbea849c72aa4c5f0c38ad1e6dcc4d17aa0037fdbaf5a68f28cf5af", func := "example.com/tallyshare/tallyshare/zzlaws_split_b1.FnAccountsAreTheWeighingOnesInNameOrderOverAnyCutOfColumns", spec := "fnAccountsAreTheWeighingOnesInNameOrderOverAnyCutOfColumns", inPlace := ["internal/reflectlite.ValueOf", "internal/reflectlite.Swapper", "(internal/reflectlite.Value).Len"], unfollowed := true, recurses := true, apart := false }
def FnAccountsAreTheWeighingOnesInNameOrderOverAnyCutOfColumnsSaid : Prop := fnAccountsAreTheWeighingOnesInNameOrderOverAnyCutOfColumnsRow.holds Try.pinned (OpenSpec.ofChange fnAccountsAreTheWeighingOnesInNameOrderOverAnyCutOfColumnsSpec)

/-- ITS FALSE NEIGHBOUR: 'it returns false'. Refute it at one input. -/
def fnAccountsAreTheWeighingOnesInNameOrderOverAnyCutOfColumnsWrong : ChangeSpec := { name := "fnAccountsAreTheWeighingOnesInNameOrderOverAnyCutOfColumns", fn := fun _ => fun
  | [d1, d2, d3] => { results := [.lit (.bool false)], args := [d1, d2, d3] }
  | _ => none }
def FnAccountsAreTheWeighingOnesInNameOrderOverAnyCutOfColumnsWrongFalsely : Prop := fnAccountsAreTheWeighingOnesInNameOrderOverAnyCutOfColumnsRow.holds Try.pinned (OpenSpec.ofChange fnAccountsAreTheWeighingOnesInNameOrderOverAnyCutOfColumnsWrong)

end Rows
end Go.Proofs.Qxb6615116a

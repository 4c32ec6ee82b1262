/-
  No cell of these rows narrows 'for every input' (looked for: loops, veiled, ifaces, maps, wideKeys, modest, calm, conditions, laid).
  DERIVED. THE GIVEN ROWS OF THIS SEAT. 2 by the template 'for every input the law returns true; each argument reads behind the call as it read before'; 0 by the template 'total and deterministic' (their statements: Qxb6615646aTotals.lean).
  GIVEN WITH THE SEED: the statements are not yours to turn. If you find one false, say at which input.
  Laid BY PROGRAM, IN A SANDBOX (cutbox-rows.mjs): the forced cells as the released guide's own fill.sh prints them over the translation 47a12c0484eb64db… (all of the seat's roots in one cut). By AI agents, Wed Nov 11 2026. No macro, syntax, notation, axiom, sorry.
-/
import Derived.Test.Qxb6615646aChecked
import GoSem.Claim
import GoSem.ClaimJoined
import GoSem.ClaimMapViews
import Derived.JoinedTies
import Derived.KernelRfl
namespace Go.Proofs.Qxb6615646a
/- THE CELL 'sum', in the pinned program and in every row, IS THE sha256 OF THE DUMP (.gsa) THAT Qxb6615646aProg.lean LOADS. Nothing in Lean hashes anything: it is a label: what it is worth is what the hold of that sum in a sandbox is worth. -/
noncomputable def Try.pinned : Pinned := { name := "qxb6615646a", sum := "47a12c0484eb64db36e3fadc5eddeeba503abb60a73258c41b9a2b80f7f80afd", checked := Try.checked }
namespace Rows
def none {H : Type} : Left H := { results := [], args := [] }

/-- 'zzlaws_internal_memory_b1.FnShareHoldsJustTheNeedsWhoseDoubleFitsTheBound': WHATEVER THE INPUT: true; the input reads as it did. -/
def fnShareHoldsJustTheNeedsWhoseDoubleFitsTheBoundSpec : ChangeSpec := { name := "fnShareHoldsJustTheNeedsWhoseDoubleFitsTheBound", fn := fun _ => fun
  | [d1, d2, d3, d4, d5] => { results := [.lit (.bool true)], args := [d1, d2, d3, d4, d5] }
  | _ => none }
def fnShareHoldsJustTheNeedsWhoseDoubleFitsTheBoundRow : OpenClaim := { program := "qxb6615646a", sum := "47a12c0484eb64db36e3fadc5eddeeba503abb60a73258c41b9a2b80f7f80afd", func := "example.com/keyleap/zzlaws_internal_memory_b1.FnShareHoldsJustTheNeedsWhoseDoubleFitsTheBound", spec := "fnShareHoldsJustTheNeedsWhoseDoubleFitsTheBound", apart := false }
def FnShareHoldsJustTheNeedsWhoseDoubleFitsTheBoundSaid : Prop := fnShareHoldsJustTheNeedsWhoseDoubleFitsTheBoundRow.holds Try.pinned (OpenSpec.ofChange fnShareHoldsJustTheNeedsWhoseDoubleFitsTheBoundSpec)

/-- ITS FALSE NEIGHBOUR: 'it returns false'. Refute it at one input. -/
def fnShareHoldsJustTheNeedsWhoseDoubleFitsTheBoundWrong : ChangeSpec := { name := "fnShareHoldsJustTheNeedsWhoseDoubleFitsTheBound", fn := fun _ => fun
  | [d1, d2, d3, d4, d5] => { results := [.lit (.bool false)], args := [d1, d2, d3, d4, d5] }
  | _ => none }
def FnShareHoldsJustTheNeedsWhoseDoubleFitsTheBoundWrongFalsely : Prop := fnShareHoldsJustTheNeedsWhoseDoubleFitsTheBoundRow.holds Try.pinned (OpenSpec.ofChange fnShareHoldsJustTheNeedsWhoseDoubleFitsTheBoundWrong)

/-- 'zzlaws_internal_memory_b1.FnShareBytesIsTheGreatestNeedItHolds': WHATEVER THE INPUT: true; the input reads as it did. -/
def fnShareBytesIsTheGreatestNeedItHoldsSpec : ChangeSpec := { name := "fnShareBytesIsTheGreatestNeedItHolds", fn := fun _ => fun
  | [d1, d2, d3, d4] => { results := [.lit (.bool true)], args := [d1, d2, d3, d4] }
  | _ => none }
def fnShareBytesIsTheGreatestNeedItHoldsRow : OpenClaim := { program := "qxb6615646a", sum := "47a12c0484eb64db36e3fadc5eddeeba503abb60a73258c41b9a2b80f7f80afd", func := "example.com/keyleap/zzlaws_internal_memory_b1.FnShareBytesIsTheGreatestNeedItHolds", spec := "fnShareBytesIsTheGreatestNeedItHolds", apart := false }
def FnShareBytesIsTheGreatestNeedItHoldsSaid : Prop := fnShareBytesIsTheGreatestNeedItHoldsRow.holds Try.pinned (OpenSpec.ofChange fnShareBytesIsTheGreatestNeedItHoldsSpec)

/-- ITS FALSE NEIGHBOUR: 'it returns false'. Refute it at one input. -/
def fnShareBytesIsTheGreatestNeedItHoldsWrong : ChangeSpec := { name := "fnShareBytesIsTheGreatestNeedItHolds", fn := fun _ => fun
  | [d1, d2, d3, d4] => { results := [.lit (.bool false)], args := [d1, d2, d3, d4] }
  | _ => none }
def FnShareBytesIsTheGreatestNeedItHoldsWrongFalsely : Prop := fnShareBytesIsTheGreatestNeedItHoldsRow.holds Try.pinned (OpenSpec.ofChange fnShareBytesIsTheGreatestNeedItHoldsWrong)

end Rows
end Go.Proofs.Qxb6615646a

/-
  No cell of these rows narrows 'for every input' (looked for: loops, veiled, ifaces, maps, wideKeys, modest, calm, conditions, laid).
  DERIVED. THE GIVEN ROWS OF THIS SEAT. 5 by the template 'for every input the law returns true; each argument reads behind the call as it read before'; 0 by the template 'total and deterministic' (their statements: Qxb6615502aTotals.lean).
  GIVEN WITH THE SEED: the statements are not yours to turn. If you find one false, say at which input.
  Laid BY PROGRAM, IN A SANDBOX (cutbox-rows.mjs): the forced cells as the released guide's own fill.sh prints them over the translation 9469d8ccecccea13… (all of the seat's roots in one cut). By AI agents, Wed Nov 11 2026. No macro, syntax, notation, axiom, sorry.
-/
import Derived.Test.Qxb6615502aChecked
import GoSem.Claim
import GoSem.ClaimJoined
import GoSem.ClaimMapViews
import Derived.JoinedTies
import Derived.KernelRfl
namespace Go.Proofs.Qxb6615502a
/- THE CELL 'sum', in the pinned program and in every row, IS THE sha256 OF THE DUMP (.gsa) THAT Qxb6615502aProg.lean LOADS. Nothing in Lean hashes anything: it is a label: what it is worth is what the hold of that sum in a sandbox is worth. -/
noncomputable def Try.pinned : Pinned := { name := "qxb6615502a", sum := "9469d8ccecccea13426aa3051c99a38eac2ca42f35532e7bfba80f7fd0baee65", checked := Try.checked }
namespace Rows
def none {H : Type} : Left H := { results := [], args := [] }

/-- 'zzlaws_internal_sim_b1.FnIdsAtLeastWiderSpaceHoldsMore': WHATEVER THE INPUT: true; the input reads as it did. -/
def fnIdsAtLeastWiderSpaceHoldsMoreSpec : ChangeSpec := { name := "fnIdsAtLeastWiderSpaceHoldsMore", fn := fun _ => fun
  | [d1, d2] => { results := [.lit (.bool true)], args := [d1, d2] }
  | _ => none }
def fnIdsAtLeastWiderSpaceHoldsMoreRow : OpenClaim := { program := "qxb6615502a", sum := "9469d8ccecccea13426aa3051c99a38eac2ca42f35532e7bfba80f7fd0baee65", func := "example.com/ringwright/ringwright/zzlaws_internal_sim_b1.FnIdsAtLeastWiderSpaceHoldsMore", spec := "fnIdsAtLeastWiderSpaceHoldsMore", apart := false }
def FnIdsAtLeastWiderSpaceHoldsMoreSaid : Prop := fnIdsAtLeastWiderSpaceHoldsMoreRow.holds Try.pinned (OpenSpec.ofChange fnIdsAtLeastWiderSpaceHoldsMoreSpec)

/-- ITS FALSE NEIGHBOUR: 'it returns false'. Refute it at one input. -/
def fnIdsAtLeastWiderSpaceHoldsMoreWrong : ChangeSpec := { name := "fnIdsAtLeastWiderSpaceHoldsMore", fn := fun _ => fun
  | [d1, d2] => { results := [.lit (.bool false)], args := [d1, d2] }
  | _ => none }
def FnIdsAtLeastWiderSpaceHoldsMoreWrongFalsely : Prop := fnIdsAtLeastWiderSpaceHoldsMoreRow.holds Try.pinned (OpenSpec.ofChange fnIdsAtLeastWiderSpaceHoldsMoreWrong)

/-- 'zzlaws_internal_sim_b1.FnIdsAtLeastDownwardClosedUpTo2PowM': WHATEVER THE INPUT: true; the input reads as it did. -/
def fnIdsAtLeastDownwardClosedUpTo2PowMSpec : ChangeSpec := { name := "fnIdsAtLeastDownwardClosedUpTo2PowM", fn := fun _ => fun
  | [d1, d2, d3] => { results := [.lit (.bool true)], args := [d1, d2, d3] }
  | _ => none }
def fnIdsAtLeastDownwardClosedUpTo2PowMRow : OpenClaim := { program := "qxb6615502a", sum := "9469d8ccecccea13426aa3051c99a38eac2ca42f35532e7bfba80f7fd0baee65", func := "example.com/ringwright/ringwright/zzlaws_internal_sim_b1.FnIdsAtLeastDownwardClosedUpTo2PowM", spec := "fnIdsAtLeastDownwardClosedUpTo2PowM", apart := false }
def FnIdsAtLeastDownwardClosedUpTo2PowMSaid : Prop := fnIdsAtLeastDownwardClosedUpTo2PowMRow.holds Try.pinned (OpenSpec.ofChange fnIdsAtLeastDownwardClosedUpTo2PowMSpec)

/-- ITS FALSE NEIGHBOUR: 'it returns false'. Refute it at one input. -/
def fnIdsAtLeastDownwardClosedUpTo2PowMWrong : ChangeSpec := { name := "fnIdsAtLeastDownwardClosedUpTo2PowM", fn := fun _ => fun
  | [d1, d2, d3] => { results := [.lit (.bool false)], args := [d1, d2, d3] }
  | _ => none }
def FnIdsAtLeastDownwardClosedUpTo2PowMWrongFalsely : Prop := fnIdsAtLeastDownwardClosedUpTo2PowMRow.holds Try.pinned (OpenSpec.ofChange fnIdsAtLeastDownwardClosedUpTo2PowMWrong)

/-- 'zzlaws_internal_sim_b1.FnPopYieldsEventsInTimeOrder': WHATEVER THE INPUT: true; the input reads as it did. -/
def fnPopYieldsEventsInTimeOrderSpec : ChangeSpec := { name := "fnPopYieldsEventsInTimeOrder", fn := fun _ => fun
  | [d1, d2] => { results := [.lit (.bool true)], args := [d1, d2] }
  | _ => none }
def fnPopYieldsEventsInTimeOrderRow : OpenClaim := { program := "qxb6615502a", sum := "9469d8ccecccea13426aa3051c99a38eac2ca42f35532e7bfba80f7fd0baee65", func := "example.com/ringwright/ringwright/zzlaws_internal_sim_b1.FnPopYieldsEventsInTimeOrder", spec := "fnPopYieldsEventsInTimeOrder", apart := false }
def FnPopYieldsEventsInTimeOrderSaid : Prop := fnPopYieldsEventsInTimeOrderRow.holds Try.pinned (OpenSpec.ofChange fnPopYieldsEventsInTimeOrderSpec)

/-- ITS FALSE NEIGHBOUR: 'it returns false'. Refute it at one input. -/
def fnPopYieldsEventsInTimeOrderWrong : ChangeSpec := { name := "fnPopYieldsEventsInTimeOrder", fn := fun _ => fun
  | [d1, d2] => { results := [.lit (.bool false)], args := [d1, d2] }
  | _ => none }
def FnPopYieldsEventsInTimeOrderWrongFalsely : Prop := fnPopYieldsEventsInTimeOrderRow.holds Try.pinned (OpenSpec.ofChange fnPopYieldsEventsInTimeOrderWrong)

/-- 'zzlaws_internal_sim_b1.FnCachedIsAnyOfMergedRuns': WHATEVER THE INPUT: true; the input reads as it did. -/
def fnCachedIsAnyOfMergedRunsSpec : ChangeSpec := { name := "fnCachedIsAnyOfMergedRuns", fn := fun _ => fun
  | [d] => { results := [.lit (.bool true)], args := [d] }
  | _ => none }
def fnCachedIsAnyOfMergedRunsRow : OpenClaim := { program := "qxb6615502a", sum := "9469d8ccecccea13426aa3051c99a38eac2ca42f35532e7bfba80f7fd0baee65", func := "example.com/ringwright/ringwright/zzlaws_internal_sim_b1.FnCachedIsAnyOfMergedRuns", spec := "fnCachedIsAnyOfMergedRuns", inPlace := ["math/bits.Add64"], apart := false }
def FnCachedIsAnyOfMergedRunsSaid : Prop := fnCachedIsAnyOfMergedRunsRow.holds Try.pinned (OpenSpec.ofChange fnCachedIsAnyOfMergedRunsSpec)

/-- ITS FALSE NEIGHBOUR: 'it returns false'. Refute it at one input. -/
def fnCachedIsAnyOfMergedRunsWrong : ChangeSpec := { name := "fnCachedIsAnyOfMergedRuns", fn := fun _ => fun
  | [d] => { results := [.lit (.bool false)], args := [d] }
  | _ => none }
def FnCachedIsAnyOfMergedRunsWrongFalsely : Prop := fnCachedIsAnyOfMergedRunsRow.holds Try.pinned (OpenSpec.ofChange fnCachedIsAnyOfMergedRunsWrong)

/-- 'zzlaws_internal_sim_b1.FnCachedKeptThroughAddedLookups': WHATEVER THE INPUT: true; the input reads as it did. -/
def fnCachedKeptThroughAddedLookupsSpec : ChangeSpec := { name := "fnCachedKeptThroughAddedLookups", fn := fun _ => fun
  | [d1, d2] => { results := [.lit (.bool true)], args := [d1, d2] }
  | _ => none }
def fnCachedKeptThroughAddedLookupsRow : OpenClaim := { program := "qxb6615502a", sum := "9469d8ccecccea13426aa3051c99a38eac2ca42f35532e7bfba80f7fd0baee65", func := "example.com/ringwright/ringwright/zzlaws_internal_sim_b1.FnCachedKeptThroughAddedLookups", spec := "fnCachedKeptThroughAddedLookups", inPlace := ["math/bits.Add64", "math.Float64bits", "math.Float64frombits"], apart := false }
def FnCachedKeptThroughAddedLookupsSaid : Prop := fnCachedKeptThroughAddedLookupsRow.holds Try.pinned (OpenSpec.ofChange fnCachedKeptThroughAddedLookupsSpec)

/-- ITS FALSE NEIGHBOUR: 'it returns false'. Refute it at one input. -/
def fnCachedKeptThroughAddedLookupsWrong : ChangeSpec := { name := "fnCachedKeptThroughAddedLookups", fn := fun _ => fun
  | [d1, d2] => { results := [.lit (.bool false)], args := [d1, d2] }
  | _ => none }
def FnCachedKeptThroughAddedLookupsWrongFalsely : Prop := fnCachedKeptThroughAddedLookupsRow.holds Try.pinned (OpenSpec.ofChange fnCachedKeptThroughAddedLookupsWrong)

end Rows
end Go.Proofs.Qxb6615502a

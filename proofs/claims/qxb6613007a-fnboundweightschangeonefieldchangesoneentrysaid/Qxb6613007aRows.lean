/-
  No cell of these rows narrows 'for every input' (looked for: loops, veiled, ifaces, maps, wideKeys, modest, calm, conditions, laid).
  DERIVED. THE GIVEN ROWS OF THIS SEAT. 1 by the template 'for every input the law returns true; each argument reads behind the call as it read before'; 0 by the template 'total and deterministic' (their statements: Qxb6613007aTotals.lean).
  GIVEN WITH THE SEED: the statements are not yours to turn. If you find one false, say at which input.
  Laid BY PROGRAM, IN A SANDBOX (cutbox-rows.mjs): the forced cells as the released guide's own fill.sh prints them over the translation 2373559e4900fb7a… (all of the seat's roots in one cut). By AI agents, Wed Nov 11 2026. No macro, syntax, notation, axiom, sorry.
-/
import Derived.Test.Qxb6613007aChecked
import GoSem.Claim
import GoSem.ClaimJoined
import GoSem.ClaimMapViews
import Derived.JoinedTies
import Derived.KernelRfl
namespace Go.Proofs.Qxb6613007a
/- THE CELL 'sum', in the pinned program and in every row, IS THE sha256 OF THE DUMP (.gsa) THAT Qxb6613007aProg.lean LOADS. Nothing in Lean hashes anything: it is a label: what it is worth is what the hold of that sum in a sandbox is worth. -/
noncomputable def Try.pinned : Pinned := { name := "qxb6613007a", sum := "2373559e4900fb7a887bd3d0348e24ef5f478aec0a6328a4968d54efaa5512fa", checked := Try.checked }
namespace Rows
def none {H : Type} : Left H := { results := [], args := [] }

/-- 'zzlaws_root_b1.FnBoundWeightsChangeOneFieldChangesOneEntry': WHATEVER THE INPUT: true; the input reads as it did. -/
def fnBoundWeightsChangeOneFieldChangesOneEntrySpec : ChangeSpec := { name := "fnBoundWeightsChangeOneFieldChangesOneEntry", fn := fun _ => fun
  | [d1, d2, d3, d4, d5, d6, d7, d8] => { results := [.lit (.bool true)], args := [d1, d2, d3, d4, d5, d6, d7, d8] }
  | _ => none }
def fnBoundWeightsChangeOneFieldChangesOneEntryRow : OpenClaim := { program := "qxb6613007a", sum := "2373559e4900fb7a887bd3d0348e24ef5f478aec0a6328a4968d54efaa5512fa", func := "example.com/congruent/congruent/zzlaws_root_b1.FnBoundWeightsChangeOneFieldChangesOneEntry", spec := "fnBoundWeightsChangeOneFieldChangesOneEntry", apart := false }
def FnBoundWeightsChangeOneFieldChangesOneEntrySaid : Prop := fnBoundWeightsChangeOneFieldChangesOneEntryRow.holds Try.pinned (OpenSpec.ofChange fnBoundWeightsChangeOneFieldChangesOneEntrySpec)

/-- ITS FALSE NEIGHBOUR: 'it returns false'. Refute it at one input. -/
def fnBoundWeightsChangeOneFieldChangesOneEntryWrong : ChangeSpec := { name := "fnBoundWeightsChangeOneFieldChangesOneEntry", fn := fun _ => fun
  | [d1, d2, d3, d4, d5, d6, d7, d8] => { results := [.lit (.bool false)], args := [d1, d2, d3, d4, d5, d6, d7, d8] }
  | _ => none }
def FnBoundWeightsChangeOneFieldChangesOneEntryWrongFalsely : Prop := fnBoundWeightsChangeOneFieldChangesOneEntryRow.holds Try.pinned (OpenSpec.ofChange fnBoundWeightsChangeOneFieldChangesOneEntryWrong)

end Rows
end Go.Proofs.Qxb6613007a

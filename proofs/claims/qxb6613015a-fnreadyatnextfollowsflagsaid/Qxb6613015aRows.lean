/-
  No cell of these rows narrows 'for every input' (looked for: loops, veiled, ifaces, maps, wideKeys, modest, calm, conditions, laid).
  DERIVED. THE GIVEN ROWS OF THIS SEAT. 4 by the template 'for every input the law returns true; each argument reads behind the call as it read before'; 0 by the template 'total and deterministic' (their statements: Qxb6613015aTotals.lean).
  GIVEN WITH THE SEED: the statements are not yours to turn. If you find one false, say at which input.
  Laid BY PROGRAM, IN A SANDBOX (cutbox-rows.mjs): the forced cells as the released guide's own fill.sh prints them over the translation 61848940301a42d4… (all of the seat's roots in one cut). By AI agents, Wed Nov 11 2026. No macro, syntax, notation, axiom, sorry.
-/
import Derived.Test.Qxb6613015aChecked
import GoSem.Claim
import GoSem.ClaimJoined
import GoSem.ClaimMapViews
import Derived.JoinedTies
import Derived.KernelRfl
namespace Go.Proofs.Qxb6613015a
/- THE CELL 'sum', in the pinned program and in every row, IS THE sha256 OF THE DUMP (.gsa) THAT Qxb6613015aProg.lean LOADS. Nothing in Lean hashes anything: it is a label: what it is worth is what the hold of that sum in a sandbox is worth. -/
noncomputable def Try.pinned : Pinned := { name := "qxb6613015a", sum := "61848940301a42d4889972f3b836bb96867b3257687786b246956115998cd9d9", checked := Try.checked }
namespace Rows
def none {H : Type} : Left H := { results := [], args := [] }

/-- 'zzlaws_root_b1.FnReadyAtNextFollowsFlag': WHATEVER THE INPUT: true; the input reads as it did. -/
def fnReadyAtNextFollowsFlagSpec : ChangeSpec := { name := "fnReadyAtNextFollowsFlag", fn := fun _ => fun
  | [d1, d2, d3] => { results := [.lit (.bool true)], args := [d1, d2, d3] }
  | _ => none }
def fnReadyAtNextFollowsFlagRow : OpenClaim := { program := "qxb6613015a", sum := "61848940301a42d4889972f3b836bb96867b3257687786b246956115998cd9d9", func := "example.com/fuseline/fuseline/zzlaws_root_b1.FnReadyAtNextFollowsFlag", spec := "fnReadyAtNextFollowsFlag", apart := false }
def FnReadyAtNextFollowsFlagSaid : Prop := fnReadyAtNextFollowsFlagRow.holds Try.pinned (OpenSpec.ofChange fnReadyAtNextFollowsFlagSpec)

/-- ITS FALSE NEIGHBOUR: 'it returns false'. Refute it at one input. -/
def fnReadyAtNextFollowsFlagWrong : ChangeSpec := { name := "fnReadyAtNextFollowsFlag", fn := fun _ => fun
  | [d1, d2, d3] => { results := [.lit (.bool false)], args := [d1, d2, d3] }
  | _ => none }
def FnReadyAtNextFollowsFlagWrongFalsely : Prop := fnReadyAtNextFollowsFlagRow.holds Try.pinned (OpenSpec.ofChange fnReadyAtNextFollowsFlagWrong)

/-- 'zzlaws_root_b1.FnReadyOfFreshTimeWindow': WHATEVER THE INPUT: true; the input reads as it did. -/
def fnReadyOfFreshTimeWindowSpec : ChangeSpec := { name := "fnReadyOfFreshTimeWindow", fn := fun _ => fun
  | [d1, d2, d3] => { results := [.lit (.bool true)], args := [d1, d2, d3] }
  | _ => none }
def fnReadyOfFreshTimeWindowRow : OpenClaim := { program := "qxb6613015a", sum := "61848940301a42d4889972f3b836bb96867b3257687786b246956115998cd9d9", func := "example.com/fuseline/fuseline/zzlaws_root_b1.FnReadyOfFreshTimeWindow", spec := "fnReadyOfFreshTimeWindow", inPlace := ["sync/atomic.LoadUint64", "sync/atomic.StoreUint64"], apart := false }
def FnReadyOfFreshTimeWindowSaid : Prop := fnReadyOfFreshTimeWindowRow.holds Try.pinned (OpenSpec.ofChange fnReadyOfFreshTimeWindowSpec)

/-- ITS FALSE NEIGHBOUR: 'it returns false'. Refute it at one input. -/
def fnReadyOfFreshTimeWindowWrong : ChangeSpec := { name := "fnReadyOfFreshTimeWindow", fn := fun _ => fun
  | [d1, d2, d3] => { results := [.lit (.bool false)], args := [d1, d2, d3] }
  | _ => none }
def FnReadyOfFreshTimeWindowWrongFalsely : Prop := fnReadyOfFreshTimeWindowRow.holds Try.pinned (OpenSpec.ofChange fnReadyOfFreshTimeWindowWrong)

/-- 'zzlaws_root_b1.FnClearEmptiesWindowAndAdvancesPosition': WHATEVER THE INPUT: true; the input reads as it did. -/
def fnClearEmptiesWindowAndAdvancesPositionSpec : ChangeSpec := { name := "fnClearEmptiesWindowAndAdvancesPosition", fn := fun _ => fun
  | [d1, d2, d3] => { results := [.lit (.bool true)], args := [d1, d2, d3] }
  | _ => none }
def fnClearEmptiesWindowAndAdvancesPositionRow : OpenClaim := { program := "qxb6613015a", sum := "61848940301a42d4889972f3b836bb96867b3257687786b246956115998cd9d9", func := "example.com/fuseline/fuseline/zzlaws_root_b1.FnClearEmptiesWindowAndAdvancesPosition", spec := "fnClearEmptiesWindowAndAdvancesPosition", inPlace := ["sync/atomic.LoadUint64", "sync/atomic.StoreUint64", "sync/atomic.CompareAndSwapUint64", "sync/atomic.SwapUint64"], apart := false }
def FnClearEmptiesWindowAndAdvancesPositionSaid : Prop := fnClearEmptiesWindowAndAdvancesPositionRow.holds Try.pinned (OpenSpec.ofChange fnClearEmptiesWindowAndAdvancesPositionSpec)

/-- ITS FALSE NEIGHBOUR: 'it returns false'. Refute it at one input. -/
def fnClearEmptiesWindowAndAdvancesPositionWrong : ChangeSpec := { name := "fnClearEmptiesWindowAndAdvancesPosition", fn := fun _ => fun
  | [d1, d2, d3] => { results := [.lit (.bool false)], args := [d1, d2, d3] }
  | _ => none }
def FnClearEmptiesWindowAndAdvancesPositionWrongFalsely : Prop := fnClearEmptiesWindowAndAdvancesPositionRow.holds Try.pinned (OpenSpec.ofChange fnClearEmptiesWindowAndAdvancesPositionWrong)

/-- 'zzlaws_root_b1.FnClearTwiceMatchesFreshWindow': WHATEVER THE INPUT: true; the input reads as it did. -/
def fnClearTwiceMatchesFreshWindowSpec : ChangeSpec := { name := "fnClearTwiceMatchesFreshWindow", fn := fun _ => fun
  | [d1, d2, d3] => { results := [.lit (.bool true)], args := [d1, d2, d3] }
  | _ => none }
def fnClearTwiceMatchesFreshWindowRow : OpenClaim := { program := "qxb6613015a", sum := "61848940301a42d4889972f3b836bb96867b3257687786b246956115998cd9d9", func := "example.com/fuseline/fuseline/zzlaws_root_b1.FnClearTwiceMatchesFreshWindow", spec := "fnClearTwiceMatchesFreshWindow", inPlace := ["sync/atomic.LoadUint64", "sync/atomic.StoreUint64", "sync/atomic.CompareAndSwapUint64", "sync/atomic.SwapUint64"], apart := false }
def FnClearTwiceMatchesFreshWindowSaid : Prop := fnClearTwiceMatchesFreshWindowRow.holds Try.pinned (OpenSpec.ofChange fnClearTwiceMatchesFreshWindowSpec)

/-- ITS FALSE NEIGHBOUR: 'it returns false'. Refute it at one input. -/
def fnClearTwiceMatchesFreshWindowWrong : ChangeSpec := { name := "fnClearTwiceMatchesFreshWindow", fn := fun _ => fun
  | [d1, d2, d3] => { results := [.lit (.bool false)], args := [d1, d2, d3] }
  | _ => none }
def FnClearTwiceMatchesFreshWindowWrongFalsely : Prop := fnClearTwiceMatchesFreshWindowRow.holds Try.pinned (OpenSpec.ofChange fnClearTwiceMatchesFreshWindowWrong)

end Rows
end Go.Proofs.Qxb6613015a

/-
  DERIVED. GIVEN WITH THE SEED: THE CARDS: each row of Qxb6612971aDoorRows.lean that lists a variable, with what it lists TIED to the program's text (the seventh form; the later family's looks); each row that meets fmt, with fmt's text TOLD by the authors' own Lean function (tested against real Go, not proved from fmt's source: count such statements apart). THE CARD IS WHAT COUNTS. Prove the row's statement (the work); the ties are given (Qxb6612971aDoorTie.lean); close each card by the builder's one call (the guide's Derived/Test/ToyasCard.lean, 'card_holds'). Laid BY PROGRAM, IN A SANDBOX (cutbox-door.mjs). By AI agents, Wed Nov 11 2026. No macro, syntax, notation, axiom, sorry.
-/
import Derived.Test.Qxb6612971aDoorRows
import GoSem.ClaimSeven
namespace Go.Proofs.Qxb6612971aDoor
namespace Rows

/-- THE TIED CARD OF 'zzlaws_root_b1.FnUnreachableFindsTheWrapperAnywhereInAJoin'. -/
def fnUnreachableFindsTheWrapperAnywhereInAJoinCard : Claim7 := { stood := { row := fnUnreachableFindsTheWrapperAnywhereInAJoinRow, standIns := [], harness := (true, "b19e5c8103cef3137067ea418a356543b4ca6a530b65bd52d12a850db1f29b7e"), looks := true }, kinds := [], alts := [], laidByText := true, laidKinds := [.handle], laidTests := true, laidLooks := .later }
def FnUnreachableFindsTheWrapperAnywhereInAJoinCardSaid : Prop := Claim7.holds Tryd.pinned (.plain (OpenSpec.ofChange fnUnreachableFindsTheWrapperAnywhereInAJoinSpec)) fnUnreachableFindsTheWrapperAnywhereInAJoinCard

/-- THE TIED CARD OF 'zzlaws_root_b1.FnLoadLimitStringJoinsNameAndNumber'. -/
def fnLoadLimitStringJoinsNameAndNumberCard : Claim7 := { stood := { row := fnLoadLimitStringJoinsNameAndNumberRow, standIns := [], harness := (true, "b19e5c8103cef3137067ea418a356543b4ca6a530b65bd52d12a850db1f29b7e"), looks := true }, kinds := [], alts := [], laidByText := true, laidKinds := [.data, .data, .data, .data, .pinned, .pinned], laidTests := true, laidLooks := .later }
def FnLoadLimitStringJoinsNameAndNumberCardSaid : Prop := Claim7.holds Tryd.pinned (.plain (OpenSpec.ofChange fnLoadLimitStringJoinsNameAndNumberSpec)) fnLoadLimitStringJoinsNameAndNumberCard

/-- THE TIED CARD OF 'zzlaws_root_b1.FnLoadLimitStringNegation'. -/
def fnLoadLimitStringNegationCard : Claim7 := { stood := { row := fnLoadLimitStringNegationRow, standIns := [], harness := (true, "b19e5c8103cef3137067ea418a356543b4ca6a530b65bd52d12a850db1f29b7e"), looks := true }, kinds := [], alts := [], laidByText := true, laidKinds := [.data, .data, .data, .data, .pinned, .pinned], laidTests := true, laidLooks := .later }
def FnLoadLimitStringNegationCardSaid : Prop := Claim7.holds Tryd.pinned (.plain (OpenSpec.ofChange fnLoadLimitStringNegationSpec)) fnLoadLimitStringNegationCard
end Rows
end Go.Proofs.Qxb6612971aDoor

/-
  No cell of these rows narrows 'for every input' (looked for: loops, veiled, ifaces, maps, wideKeys, modest, calm, conditions, laid).
  DERIVED. THE GIVEN ROWS OF THIS SEAT. 5 by the template 'for every input the law returns true; each argument reads behind the call as it read before'; 0 by the template 'total and deterministic' (their statements: Qxb6618677aTotals.lean).
  GIVEN WITH THE SEED: the statements are not yours to turn. If you find one false, say at which input.
  Laid BY PROGRAM, IN A SANDBOX (cutbox-rows.mjs): the forced cells as the released guide's own fill.sh prints them over the translation b6f8a9834e75c87b… (all of the seat's roots in one cut). By AI agents, Wed Nov 11 2026. No macro, syntax, notation, axiom, sorry.
-/
import Derived.Test.Qxb6618677aChecked
import GoSem.Claim
import GoSem.ClaimJoined
import GoSem.ClaimMapViews
import Derived.JoinedTies
import Derived.KernelRfl
namespace Go.Proofs.Qxb6618677a
/- THE CELL 'sum', in the pinned program and in every row, IS THE sha256 OF THE DUMP (.gsa) THAT Qxb6618677aProg.lean LOADS. Nothing in Lean hashes anything: it is a label: what it is worth is what the hold of that sum in a sandbox is worth. -/
noncomputable def Try.pinned : Pinned := { name := "qxb6618677a", sum := "b6f8a9834e75c87b261e0b3edd252cfebcad3c57b1abe94a31aa7a794efcf536", checked := Try.checked }
namespace Rows
def none {H : Type} : Left H := { results := [], args := [] }

/-- 'zzlaws_stif_b1.FnNewReaderEachCarriesItsOwnName': WHATEVER THE INPUT: true; the input reads as it did. -/
def fnNewReaderEachCarriesItsOwnNameSpec : ChangeSpec := { name := "fnNewReaderEachCarriesItsOwnName", fn := fun _ => fun
  | [d1, d2, d3, d4] => { results := [.lit (.bool true)], args := [d1, d2, d3, d4] }
  | _ => none }
def fnNewReaderEachCarriesItsOwnNameRow : OpenClaim := { program := "qxb6618677a", sum := "b6f8a9834e75c87b261e0b3edd252cfebcad3c57b1abe94a31aa7a794efcf536", func := "example.com/delrec/delrec/zzlaws_stif_b1.FnNewReaderEachCarriesItsOwnName", spec := "fnNewReaderEachCarriesItsOwnName", apart := false }
def FnNewReaderEachCarriesItsOwnNameSaid : Prop := fnNewReaderEachCarriesItsOwnNameRow.holds Try.pinned (OpenSpec.ofChange fnNewReaderEachCarriesItsOwnNameSpec)

/-- ITS FALSE NEIGHBOUR: 'it returns false'. Refute it at one input. -/
def fnNewReaderEachCarriesItsOwnNameWrong : ChangeSpec := { name := "fnNewReaderEachCarriesItsOwnName", fn := fun _ => fun
  | [d1, d2, d3, d4] => { results := [.lit (.bool false)], args := [d1, d2, d3, d4] }
  | _ => none }
def FnNewReaderEachCarriesItsOwnNameWrongFalsely : Prop := fnNewReaderEachCarriesItsOwnNameRow.holds Try.pinned (OpenSpec.ofChange fnNewReaderEachCarriesItsOwnNameWrong)

/-- 'zzlaws_stif_b1.FnWalkYieldsTheFieldsItReaches': WHATEVER THE INPUT: true; the input reads as it did. -/
def fnWalkYieldsTheFieldsItReachesSpec : ChangeSpec := { name := "fnWalkYieldsTheFieldsItReaches", fn := fun _ => fun
  | [d1, d2, d3, d4, d5, d6, d7, d8] => { results := [.lit (.bool true)], args := [d1, d2, d3, d4, d5, d6, d7, d8] }
  | _ => none }
def fnWalkYieldsTheFieldsItReachesRow : OpenClaim := { program := "qxb6618677a", sum := "b6f8a9834e75c87b261e0b3edd252cfebcad3c57b1abe94a31aa7a794efcf536", func := "example.com/delrec/delrec/zzlaws_stif_b1.FnWalkYieldsTheFieldsItReaches", spec := "fnWalkYieldsTheFieldsItReaches", unfollowed := true, recurses := true, apart := false }
def FnWalkYieldsTheFieldsItReachesSaid : Prop := fnWalkYieldsTheFieldsItReachesRow.holds Try.pinned (OpenSpec.ofChange fnWalkYieldsTheFieldsItReachesSpec)

/-- ITS FALSE NEIGHBOUR: 'it returns false'. Refute it at one input. -/
def fnWalkYieldsTheFieldsItReachesWrong : ChangeSpec := { name := "fnWalkYieldsTheFieldsItReaches", fn := fun _ => fun
  | [d1, d2, d3, d4, d5, d6, d7, d8] => { results := [.lit (.bool false)], args := [d1, d2, d3, d4, d5, d6, d7, d8] }
  | _ => none }
def FnWalkYieldsTheFieldsItReachesWrongFalsely : Prop := fnWalkYieldsTheFieldsItReachesRow.holds Try.pinned (OpenSpec.ofChange fnWalkYieldsTheFieldsItReachesWrong)

/-- 'zzlaws_stif_b1.FnWalkStopsAndPassesOverInOrder': WHATEVER THE INPUT: true; the input reads as it did. -/
def fnWalkStopsAndPassesOverInOrderSpec : ChangeSpec := { name := "fnWalkStopsAndPassesOverInOrder", fn := fun _ => fun
  | [d1, d2, d3, d4, d5, d6, d7, d8] => { results := [.lit (.bool true)], args := [d1, d2, d3, d4, d5, d6, d7, d8] }
  | _ => none }
def fnWalkStopsAndPassesOverInOrderRow : OpenClaim := { program := "qxb6618677a", sum := "b6f8a9834e75c87b261e0b3edd252cfebcad3c57b1abe94a31aa7a794efcf536", func := "example.com/delrec/delrec/zzlaws_stif_b1.FnWalkStopsAndPassesOverInOrder", spec := "fnWalkStopsAndPassesOverInOrder", unfollowed := true, recurses := true, apart := false }
def FnWalkStopsAndPassesOverInOrderSaid : Prop := fnWalkStopsAndPassesOverInOrderRow.holds Try.pinned (OpenSpec.ofChange fnWalkStopsAndPassesOverInOrderSpec)

/-- ITS FALSE NEIGHBOUR: 'it returns false'. Refute it at one input. -/
def fnWalkStopsAndPassesOverInOrderWrong : ChangeSpec := { name := "fnWalkStopsAndPassesOverInOrder", fn := fun _ => fun
  | [d1, d2, d3, d4, d5, d6, d7, d8] => { results := [.lit (.bool false)], args := [d1, d2, d3, d4, d5, d6, d7, d8] }
  | _ => none }
def FnWalkStopsAndPassesOverInOrderWrongFalsely : Prop := fnWalkStopsAndPassesOverInOrderRow.holds Try.pinned (OpenSpec.ofChange fnWalkStopsAndPassesOverInOrderWrong)

/-- 'zzlaws_stif_b1.FnResolveIndexPicksFromTheValuesOfIndexZero': WHATEVER THE INPUT: true; the input reads as it did. -/
def fnResolveIndexPicksFromTheValuesOfIndexZeroSpec : ChangeSpec := { name := "fnResolveIndexPicksFromTheValuesOfIndexZero", fn := fun _ => fun
  | [d1, d2, d3, d4, d5, d6, d7] => { results := [.lit (.bool true)], args := [d1, d2, d3, d4, d5, d6, d7] }
  | _ => none }
def fnResolveIndexPicksFromTheValuesOfIndexZeroRow : OpenClaim := { program := "qxb6618677a", sum := "b6f8a9834e75c87b261e0b3edd252cfebcad3c57b1abe94a31aa7a794efcf536", func := "example.com/delrec/delrec/zzlaws_stif_b1.FnResolveIndexPicksFromTheValuesOfIndexZero", spec := "fnResolveIndexPicksFromTheValuesOfIndexZero", unfollowed := true, recurses := true, apart := false }
def FnResolveIndexPicksFromTheValuesOfIndexZeroSaid : Prop := fnResolveIndexPicksFromTheValuesOfIndexZeroRow.holds Try.pinned (OpenSpec.ofChange fnResolveIndexPicksFromTheValuesOfIndexZeroSpec)

/-- ITS FALSE NEIGHBOUR: 'it returns false'. Refute it at one input. -/
def fnResolveIndexPicksFromTheValuesOfIndexZeroWrong : ChangeSpec := { name := "fnResolveIndexPicksFromTheValuesOfIndexZero", fn := fun _ => fun
  | [d1, d2, d3, d4, d5, d6, d7] => { results := [.lit (.bool false)], args := [d1, d2, d3, d4, d5, d6, d7] }
  | _ => none }
def FnResolveIndexPicksFromTheValuesOfIndexZeroWrongFalsely : Prop := fnResolveIndexPicksFromTheValuesOfIndexZeroRow.holds Try.pinned (OpenSpec.ofChange fnResolveIndexPicksFromTheValuesOfIndexZeroWrong)

/-- 'zzlaws_stif_b1.FnResolveDescendsIntoEachNestingOfItsHead': WHATEVER THE INPUT: true; the input reads as it did. -/
def fnResolveDescendsIntoEachNestingOfItsHeadSpec : ChangeSpec := { name := "fnResolveDescendsIntoEachNestingOfItsHead", fn := fun _ => fun
  | [d1, d2, d3, d4, d5, d6, d7] => { results := [.lit (.bool true)], args := [d1, d2, d3, d4, d5, d6, d7] }
  | _ => none }
def fnResolveDescendsIntoEachNestingOfItsHeadRow : OpenClaim := { program := "qxb6618677a", sum := "b6f8a9834e75c87b261e0b3edd252cfebcad3c57b1abe94a31aa7a794efcf536", func := "example.com/delrec/delrec/zzlaws_stif_b1.FnResolveDescendsIntoEachNestingOfItsHead", spec := "fnResolveDescendsIntoEachNestingOfItsHead", unfollowed := true, recurses := true, apart := false }
def FnResolveDescendsIntoEachNestingOfItsHeadSaid : Prop := fnResolveDescendsIntoEachNestingOfItsHeadRow.holds Try.pinned (OpenSpec.ofChange fnResolveDescendsIntoEachNestingOfItsHeadSpec)

/-- ITS FALSE NEIGHBOUR: 'it returns false'. Refute it at one input. -/
def fnResolveDescendsIntoEachNestingOfItsHeadWrong : ChangeSpec := { name := "fnResolveDescendsIntoEachNestingOfItsHead", fn := fun _ => fun
  | [d1, d2, d3, d4, d5, d6, d7] => { results := [.lit (.bool false)], args := [d1, d2, d3, d4, d5, d6, d7] }
  | _ => none }
def FnResolveDescendsIntoEachNestingOfItsHeadWrongFalsely : Prop := fnResolveDescendsIntoEachNestingOfItsHeadRow.holds Try.pinned (OpenSpec.ofChange fnResolveDescendsIntoEachNestingOfItsHeadWrong)

end Rows
end Go.Proofs.Qxb6618677a

/-
  No cell of these rows narrows 'for every input' (looked for: loops, veiled, ifaces, maps, wideKeys, modest, calm, conditions, laid).
  DERIVED. THE GIVEN ROWS OF THIS SEAT. 3 by the template 'for every input the law returns true; each argument reads behind the call as it read before'; 0 by the template 'total and deterministic' (their statements: Qxb6618748aTotals.lean).
  GIVEN WITH THE SEED: the statements are not yours to turn. If you find one false, say at which input.
  Laid BY PROGRAM, IN A SANDBOX (cutbox-rows.mjs): the forced cells as the released guide's own fill.sh prints them over the translation daeca5e9968eecf6… (all of the seat's roots in one cut). By AI agents, Wed Nov 11 2026. No macro, syntax, notation, axiom, sorry.
-/
import Derived.Test.Qxb6618748aChecked
import GoSem.Claim
import GoSem.ClaimJoined
import GoSem.ClaimMapViews
import Derived.JoinedTies
import Derived.KernelRfl
namespace Go.Proofs.Qxb6618748a
/- THE CELL 'sum', in the pinned program and in every row, IS THE sha256 OF THE DUMP (.gsa) THAT Qxb6618748aProg.lean LOADS. Nothing in Lean hashes anything: it is a label: what it is worth is what the hold of that sum in a sandbox is worth. -/
noncomputable def Try.pinned : Pinned := { name := "qxb6618748a", sum := "daeca5e9968eecf6a8b5d703438917f37f2600d539aed194e03720d799191868", checked := Try.checked }
namespace Rows
def none {H : Type} : Left H := { results := [], args := [] }

/-- 'zzlaws_internal_wire_b1.FnWithCandidatesComposesToTheLesser': WHATEVER THE INPUT: true; the input reads as it did. -/
def fnWithCandidatesComposesToTheLesserSpec : ChangeSpec := { name := "fnWithCandidatesComposesToTheLesser", fn := fun _ => fun
  | [d1, d2, d3] => { results := [.lit (.bool true)], args := [d1, d2, d3] }
  | _ => none }
def fnWithCandidatesComposesToTheLesserRow : OpenClaim := { program := "qxb6618748a", sum := "daeca5e9968eecf6a8b5d703438917f37f2600d539aed194e03720d799191868", func := "example.com/model-handoff/model-handoff/zzlaws_internal_wire_b1.FnWithCandidatesComposesToTheLesser", spec := "fnWithCandidatesComposesToTheLesser", apart := false }
def FnWithCandidatesComposesToTheLesserSaid : Prop := fnWithCandidatesComposesToTheLesserRow.holds Try.pinned (OpenSpec.ofChange fnWithCandidatesComposesToTheLesserSpec)

/-- ITS FALSE NEIGHBOUR: 'it returns false'. Refute it at one input. -/
def fnWithCandidatesComposesToTheLesserWrong : ChangeSpec := { name := "fnWithCandidatesComposesToTheLesser", fn := fun _ => fun
  | [d1, d2, d3] => { results := [.lit (.bool false)], args := [d1, d2, d3] }
  | _ => none }
def FnWithCandidatesComposesToTheLesserWrongFalsely : Prop := fnWithCandidatesComposesToTheLesserRow.holds Try.pinned (OpenSpec.ofChange fnWithCandidatesComposesToTheLesserWrong)

/-- 'zzlaws_internal_wire_b1.FnAddWholeKeepsEveryTextAndTokenInOrder': WHATEVER THE INPUT: true; the input reads as it did. -/
def fnAddWholeKeepsEveryTextAndTokenInOrderSpec : ChangeSpec := { name := "fnAddWholeKeepsEveryTextAndTokenInOrder", fn := fun _ => fun
  | [d1, d2, d3] => { results := [.lit (.bool true)], args := [d1, d2, d3] }
  | _ => none }
def fnAddWholeKeepsEveryTextAndTokenInOrderRow : OpenClaim := { program := "qxb6618748a", sum := "daeca5e9968eecf6a8b5d703438917f37f2600d539aed194e03720d799191868", func := "example.com/model-handoff/model-handoff/zzlaws_internal_wire_b1.FnAddWholeKeepsEveryTextAndTokenInOrder", spec := "fnAddWholeKeepsEveryTextAndTokenInOrder", inPlace := ["math.Float64bits"], unfollowed := true, recurses := true, named := ["encoding/binary.LittleEndian"], apart := false }
def FnAddWholeKeepsEveryTextAndTokenInOrderSaid : Prop := fnAddWholeKeepsEveryTextAndTokenInOrderRow.holds Try.pinned (OpenSpec.ofChange fnAddWholeKeepsEveryTextAndTokenInOrderSpec)

/-- ITS FALSE NEIGHBOUR: 'it returns false'. Refute it at one input. -/
def fnAddWholeKeepsEveryTextAndTokenInOrderWrong : ChangeSpec := { name := "fnAddWholeKeepsEveryTextAndTokenInOrder", fn := fun _ => fun
  | [d1, d2, d3] => { results := [.lit (.bool false)], args := [d1, d2, d3] }
  | _ => none }
def FnAddWholeKeepsEveryTextAndTokenInOrderWrongFalsely : Prop := fnAddWholeKeepsEveryTextAndTokenInOrderRow.holds Try.pinned (OpenSpec.ofChange fnAddWholeKeepsEveryTextAndTokenInOrderWrong)

/-- 'zzlaws_internal_wire_b1.FnAddWholeAddsAPieceATokenWhenTheyMakeUpTheContent': WHATEVER THE INPUT: true; the input reads as it did. -/
def fnAddWholeAddsAPieceATokenWhenTheyMakeUpTheContentSpec : ChangeSpec := { name := "fnAddWholeAddsAPieceATokenWhenTheyMakeUpTheContent", fn := fun _ => fun
  | [d1, d2] => { results := [.lit (.bool true)], args := [d1, d2] }
  | _ => none }
def fnAddWholeAddsAPieceATokenWhenTheyMakeUpTheContentRow : OpenClaim := { program := "qxb6618748a", sum := "daeca5e9968eecf6a8b5d703438917f37f2600d539aed194e03720d799191868", func := "example.com/model-handoff/model-handoff/zzlaws_internal_wire_b1.FnAddWholeAddsAPieceATokenWhenTheyMakeUpTheContent", spec := "fnAddWholeAddsAPieceATokenWhenTheyMakeUpTheContent", inPlace := ["math.Float64bits"], unfollowed := true, recurses := true, named := ["encoding/binary.LittleEndian"], apart := false }
def FnAddWholeAddsAPieceATokenWhenTheyMakeUpTheContentSaid : Prop := fnAddWholeAddsAPieceATokenWhenTheyMakeUpTheContentRow.holds Try.pinned (OpenSpec.ofChange fnAddWholeAddsAPieceATokenWhenTheyMakeUpTheContentSpec)

/-- ITS FALSE NEIGHBOUR: 'it returns false'. Refute it at one input. -/
def fnAddWholeAddsAPieceATokenWhenTheyMakeUpTheContentWrong : ChangeSpec := { name := "fnAddWholeAddsAPieceATokenWhenTheyMakeUpTheContent", fn := fun _ => fun
  | [d1, d2] => { results := [.lit (.bool false)], args := [d1, d2] }
  | _ => none }
def FnAddWholeAddsAPieceATokenWhenTheyMakeUpTheContentWrongFalsely : Prop := fnAddWholeAddsAPieceATokenWhenTheyMakeUpTheContentRow.holds Try.pinned (OpenSpec.ofChange fnAddWholeAddsAPieceATokenWhenTheyMakeUpTheContentWrong)

end Rows
end Go.Proofs.Qxb6618748a

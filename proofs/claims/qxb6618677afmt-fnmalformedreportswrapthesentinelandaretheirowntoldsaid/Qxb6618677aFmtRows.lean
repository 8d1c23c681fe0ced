/-
  NARROWER THAN 'FOR EVERY INPUT', by the rows' own cells (each row's printed sentence says how): FnMalformedReportsWrapTheSentinelAndAreTheirOwn: ifaces, laid.
  DERIVED. THE GIVEN ROWS OF THIS SEAT. 1 by the template 'for every input the law returns true; each argument reads behind the call as it read before'; 0 by the template 'total and deterministic' (their statements: Qxb6618677aFmtTotals.lean).
  GIVEN WITH THE SEED: the statements are not yours to turn. If you find one false, say at which input.
  Laid BY PROGRAM, IN A SANDBOX (cutbox-rows.mjs): the forced cells as the released guide's own fill.sh prints them over the translation fa0538f8c3d8d81c… (all of the seat's roots in one cut). By AI agents, Wed Nov 11 2026. No macro, syntax, notation, axiom, sorry.
-/
import Derived.Test.Qxb6618677aFmtChecked
import GoSem.Claim
import GoSem.ClaimJoined
import GoSem.ClaimMapViews
import Derived.JoinedTies
import Derived.KernelRfl
namespace Go.Proofs.Qxb6618677aFmt
/- THE CELL 'sum', in the pinned program and in every row, IS THE sha256 OF THE DUMP (.gsa) THAT Qxb6618677aFmtProg.lean LOADS. Nothing in Lean hashes anything: it is a label: what it is worth is what the hold of that sum in a sandbox is worth. -/
noncomputable def Tryf.pinned : Pinned := { name := "qxb6618677afmt", sum := "fa0538f8c3d8d81c2c3f8b41cae2f804f6fd5a918ab7fdd7ebba16d4304a81d7", checked := Tryf.checked }
namespace Rows
def none {H : Type} : Left H := { results := [], args := [] }

/- WHAT THE LISTED PACKAGE-LEVEL VARIABLES READ AS WHEN THE CALL BEGINS. Each datum BY PROGRAM (the guide's laid-datum.mjs) off the statement by which the dump's own 'gosem.cut.vars' lays the variable. In a bare row this is a premise. The card (Qxb6618677aFmtCards.lean) ties it to the program's text. -/
def laid_example_com_delrec_delrec_stif_ErrMalformed {H : Type} : DataW H := .iface "*errors.errorString" (.ptr (.agg [.lit (.string [109, 97, 108, 102, 111, 114, 109, 101, 100, 32, 104, 101, 97, 100, 101, 114])]))

/-- 'zzlaws_stif_b1.FnMalformedReportsWrapTheSentinelAndAreTheirOwn': WHATEVER THE INPUT: true; the input reads as it did. -/
def fnMalformedReportsWrapTheSentinelAndAreTheirOwnSpec : ChangeSpec := { name := "fnMalformedReportsWrapTheSentinelAndAreTheirOwn", vars := ["example.com/delrec/delrec/stif.ErrMalformed"], fn := fun _ => fun
  | [d1, d2, g1] => { results := [.lit (.bool true)], args := [d1, d2], vars := [g1] }
  | _ => none }
def fnMalformedReportsWrapTheSentinelAndAreTheirOwnRow : OpenClaim := { program := "qxb6618677afmt", sum := "fa0538f8c3d8d81c2c3f8b41cae2f804f6fd5a918ab7fdd7ebba16d4304a81d7", func := "example.com/delrec/delrec/zzlaws_stif_b1.FnMalformedReportsWrapTheSentinelAndAreTheirOwn", spec := "fnMalformedReportsWrapTheSentinelAndAreTheirOwn", stops := ["fmt.errorf"], inPlace := ["fmt.errorf", "internal/reflectlite.TypeOf"], unfollowed := true, recurses := true, named := ["example.com/delrec/delrec/stif.ErrMalformed"], ifaces := true, apart := false, laid := [("example.com/delrec/delrec/stif.ErrMalformed", laid_example_com_delrec_delrec_stif_ErrMalformed)] }
/-- NO THEOREM (fmt's text is open here; it may be false): for the released tool's asking of the row's closed facts alone. THE STATEMENT IS 'FnMalformedReportsWrapTheSentinelAndAreTheirOwnToldSaid' (Qxb6618677aFmtCards.lean). -/
def FnMalformedReportsWrapTheSentinelAndAreTheirOwnFormAsk : Prop := fnMalformedReportsWrapTheSentinelAndAreTheirOwnRow.holds Tryf.pinned (OpenSpec.ofChange fnMalformedReportsWrapTheSentinelAndAreTheirOwnSpec)

/-- ITS FALSE NEIGHBOUR: 'it returns false'. Refute it at one input. -/
def fnMalformedReportsWrapTheSentinelAndAreTheirOwnWrong : ChangeSpec := { name := "fnMalformedReportsWrapTheSentinelAndAreTheirOwn", vars := ["example.com/delrec/delrec/stif.ErrMalformed"], fn := fun _ => fun
  | [d1, d2, g1] => { results := [.lit (.bool false)], args := [d1, d2], vars := [g1] }
  | _ => none }
def FnMalformedReportsWrapTheSentinelAndAreTheirOwnWrongFormAsk : Prop := fnMalformedReportsWrapTheSentinelAndAreTheirOwnRow.holds Tryf.pinned (OpenSpec.ofChange fnMalformedReportsWrapTheSentinelAndAreTheirOwnWrong)

end Rows
end Go.Proofs.Qxb6618677aFmt

/-
  DERIVED. GIVEN WITH THE SEED: THE CARDS: each row of Qxb6618677aFmtRows.lean that lists a variable, with what it lists TIED to the program's text (the seventh form; the later family's looks); each row that meets fmt, with fmt's text TOLD by the authors' own Lean function (tested against real Go, not proved from fmt's source: count such statements apart). THE CARD IS WHAT COUNTS. Prove the row's statement (the work); the ties are given (Qxb6618677aFmtTie.lean); close each card by the builder's one call (the guide's Derived/Test/ToyasCard.lean, 'card_holds'). Laid BY PROGRAM, IN A SANDBOX (cutbox-door.mjs). By AI agents, Wed Nov 11 2026. No macro, syntax, notation, axiom, sorry.
-/
import Derived.Test.Qxb6618677aFmtRows
import GoSem.ClaimSeven
namespace Go.Proofs.Qxb6618677aFmt
namespace Rows

/-- THE TOLD AND TIED CARD OF 'zzlaws_stif_b1.FnMalformedReportsWrapTheSentinelAndAreTheirOwn'. -/
def fnMalformedReportsWrapTheSentinelAndAreTheirOwnCard : Claim7 := { stood := { row := fnMalformedReportsWrapTheSentinelAndAreTheirOwnRow, standIns := [], harness := (true, "54162a387eeebf098707936247dfd12a324a4266bb184b615ffd853dd1b003d7"), looks := true }, told := true, laidByText := true, laidKinds := [.sentinel], laidTests := true, laidLooks := .later, goes := false }
def FnMalformedReportsWrapTheSentinelAndAreTheirOwnToldSaid : Prop := Claim7.holds Tryf.pinned (.plain (OpenSpec.ofChange fnMalformedReportsWrapTheSentinelAndAreTheirOwnSpec)) fnMalformedReportsWrapTheSentinelAndAreTheirOwnCard
/-- ITS FALSE NEIGHBOUR. Refute it at one input. -/
def FnMalformedReportsWrapTheSentinelAndAreTheirOwnToldWrongFalsely : Prop := Claim7.holds Tryf.pinned (.plain (OpenSpec.ofChange fnMalformedReportsWrapTheSentinelAndAreTheirOwnWrong)) fnMalformedReportsWrapTheSentinelAndAreTheirOwnCard
end Rows
end Go.Proofs.Qxb6618677aFmt

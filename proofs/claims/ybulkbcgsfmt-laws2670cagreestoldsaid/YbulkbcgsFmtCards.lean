/-
  DERIVED. GIVEN WITH THE SEED: THE CARDS: each row of YbulkbcgsFmtRows.lean that lists a variable, with what it lists TIED to the program's text (the seventh form; the later family's looks); each row that meets fmt, with fmt's text TOLD by the authors' own Lean function (tested against real Go, not proved from fmt's source: count such statements apart). THE CARD IS WHAT COUNTS. Prove the row's statement (the work); the ties are given (YbulkbcgsFmtTie.lean); close each card by the builder's one call (the guide's Derived/Test/ToyasCard.lean, 'card_holds'). Laid BY PROGRAM, IN A SANDBOX (cutbox-door.mjs). By AI agents, Wed Nov 11 2026. No macro, syntax, notation, axiom, sorry.
-/
import Derived.Test.YbulkbcgsFmtRows
import GoSem.ClaimSeven
namespace Go.Proofs.YbulkbcgsFmt
namespace Rows

/-- THE TOLD CARD OF 'burstledger.LawS2670CAgrees'. -/
def lawS2670CAgreesCard : Claim7 := { stood := { row := lawS2670CAgreesRow, standIns := [], harness := (true, "0d1c22d8ea5f75fbdc8996605affba127b03308b81fd900d91514111ecacdcc6"), looks := false }, told := true, goes := false }
def LawS2670CAgreesToldSaid : Prop := Claim7.holds Ybaf.pinned (.plain (OpenSpec.ofChange lawS2670CAgreesSpec)) lawS2670CAgreesCard
/-- ITS FALSE NEIGHBOUR. Refute it at one input. -/
def LawS2670CAgreesToldWrongFalsely : Prop := Claim7.holds Ybaf.pinned (.plain (OpenSpec.ofChange lawS2670CAgreesWrong)) lawS2670CAgreesCard

/-- THE TOLD CARD OF 'burstledger.LawS2670CValid'. -/
def lawS2670CValidCard : Claim7 := { stood := { row := lawS2670CValidRow, standIns := [], harness := (true, "0d1c22d8ea5f75fbdc8996605affba127b03308b81fd900d91514111ecacdcc6"), looks := false }, told := true, goes := false }
def LawS2670CValidToldSaid : Prop := Claim7.holds Ybaf.pinned (.plain (OpenSpec.ofChange lawS2670CValidSpec)) lawS2670CValidCard
/-- ITS FALSE NEIGHBOUR. Refute it at one input. -/
def LawS2670CValidToldWrongFalsely : Prop := Claim7.holds Ybaf.pinned (.plain (OpenSpec.ofChange lawS2670CValidWrong)) lawS2670CValidCard
end Rows
end Go.Proofs.YbulkbcgsFmt

/-
  No cell of these rows narrows 'for every input' (looked for: loops, veiled, ifaces, maps, wideKeys, modest, calm, conditions, laid).
  DERIVED. THE GIVEN ROWS OF THIS SEAT. 2 by the template 'for every input the law returns true; each argument reads behind the call as it read before'; 0 by the template 'total and deterministic' (their statements: YbulkbcgsFmtTotals.lean).
  GIVEN WITH THE SEED: the statements are not yours to turn. If you find one false, say at which input.
  Laid BY PROGRAM, IN A SANDBOX (cutbox-rows.mjs): the forced cells as the released guide's own fill.sh prints them over the translation 6d3df5db15165c26… (all of the seat's roots in one cut). By AI agents, Wed Nov 11 2026. No macro, syntax, notation, axiom, sorry.
-/
import Derived.Test.YbulkbcgsFmtChecked
import GoSem.Claim
import GoSem.ClaimJoined
import GoSem.ClaimMapViews
import Derived.JoinedTies
import Derived.KernelRfl
namespace Go.Proofs.YbulkbcgsFmt
/- THE CELL 'sum', in the pinned program and in every row, IS THE sha256 OF THE DUMP (.gsa) THAT YbulkbcgsFmtProg.lean LOADS. Nothing in Lean hashes anything: it is a label: what it is worth is what the hold of that sum in a sandbox is worth. -/
noncomputable def Ybaf.pinned : Pinned := { name := "ybulkbcgsfmt", sum := "6d3df5db15165c260d1a2445f6df440b93ef103fd934724712e5c405c4df7440", checked := Ybaf.checked }
namespace Rows
def none {H : Type} : Left H := { results := [], args := [] }

/-- 'burstledger.LawS2670CAgrees': WHATEVER THE INPUT: true; the input reads as it did. -/
def lawS2670CAgreesSpec : ChangeSpec := { name := "lawS2670CAgrees", fn := fun _ => fun
  | [d1, d2, d3, d4] => { results := [.lit (.bool true)], args := [d1, d2, d3, d4] }
  | _ => none }
def lawS2670CAgreesRow : OpenClaim := { program := "ybulkbcgsfmt", sum := "6d3df5db15165c260d1a2445f6df440b93ef103fd934724712e5c405c4df7440", func := "example.com/burstledger/burstledger.LawS2670CAgrees", spec := "lawS2670CAgrees", stops := ["fmt.Sprintf"], inPlace := ["internal/abi.NoEscape", "internal/bytealg.MakeNoZero", "math.Float64bits", "math.Float64frombits", "fmt.Sprintf"], apart := false }
/-- NO THEOREM (fmt's text is open here; it may be false): for the released tool's asking of the row's closed facts alone. THE STATEMENT IS 'LawS2670CAgreesToldSaid' (YbulkbcgsFmtCards.lean). -/
def LawS2670CAgreesFormAsk : Prop := lawS2670CAgreesRow.holds Ybaf.pinned (OpenSpec.ofChange lawS2670CAgreesSpec)

/-- ITS FALSE NEIGHBOUR: 'it returns false'. Refute it at one input. -/
def lawS2670CAgreesWrong : ChangeSpec := { name := "lawS2670CAgrees", fn := fun _ => fun
  | [d1, d2, d3, d4] => { results := [.lit (.bool false)], args := [d1, d2, d3, d4] }
  | _ => none }
def LawS2670CAgreesWrongFormAsk : Prop := lawS2670CAgreesRow.holds Ybaf.pinned (OpenSpec.ofChange lawS2670CAgreesWrong)

/-- 'burstledger.LawS2670CValid': WHATEVER THE INPUT: true; the input reads as it did. -/
def lawS2670CValidSpec : ChangeSpec := { name := "lawS2670CValid", fn := fun _ => fun
  | [d1, d2, d3, d4, d5, d6, d7] => { results := [.lit (.bool true)], args := [d1, d2, d3, d4, d5, d6, d7] }
  | _ => none }
def lawS2670CValidRow : OpenClaim := { program := "ybulkbcgsfmt", sum := "6d3df5db15165c260d1a2445f6df440b93ef103fd934724712e5c405c4df7440", func := "example.com/burstledger/burstledger.LawS2670CValid", spec := "lawS2670CValid", stops := ["fmt.Sprintf"], inPlace := ["internal/abi.NoEscape", "internal/bytealg.MakeNoZero", "math.Float64bits", "math.Float64frombits", "fmt.Sprintf"], apart := false }
/-- NO THEOREM (fmt's text is open here; it may be false): for the released tool's asking of the row's closed facts alone. THE STATEMENT IS 'LawS2670CValidToldSaid' (YbulkbcgsFmtCards.lean). -/
def LawS2670CValidFormAsk : Prop := lawS2670CValidRow.holds Ybaf.pinned (OpenSpec.ofChange lawS2670CValidSpec)

/-- ITS FALSE NEIGHBOUR: 'it returns false'. Refute it at one input. -/
def lawS2670CValidWrong : ChangeSpec := { name := "lawS2670CValid", fn := fun _ => fun
  | [d1, d2, d3, d4, d5, d6, d7] => { results := [.lit (.bool false)], args := [d1, d2, d3, d4, d5, d6, d7] }
  | _ => none }
def LawS2670CValidWrongFormAsk : Prop := lawS2670CValidRow.holds Ybaf.pinned (OpenSpec.ofChange lawS2670CValidWrong)

end Rows
end Go.Proofs.YbulkbcgsFmt

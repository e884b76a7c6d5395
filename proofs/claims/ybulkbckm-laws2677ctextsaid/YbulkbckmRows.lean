/-
  No cell of these rows narrows 'for every input' (looked for: loops, veiled, ifaces, maps, wideKeys, modest, calm, conditions, laid).
  DERIVED. THE GIVEN ROWS OF THIS SEAT. 1 by the template 'for every input the law returns true; each argument reads behind the call as it read before'; 0 by the template 'total and deterministic' (their statements: YbulkbckmTotals.lean).
  GIVEN WITH THE SEED: the statements are not yours to turn. If you find one false, say at which input.
  Laid BY PROGRAM, IN A SANDBOX (cutbox-rows.mjs): the forced cells as the released guide's own fill.sh prints them over the translation fb762b2fc5050d1c… (all of the seat's roots in one cut). By AI agents, Wed Nov 11 2026. No macro, syntax, notation, axiom, sorry.
-/
import Derived.Test.YbulkbckmChecked
import GoSem.Claim
import GoSem.ClaimJoined
import GoSem.ClaimMapViews
import Derived.JoinedTies
import Derived.KernelRfl
namespace Go.Proofs.Ybulkbckm
/- THE CELL 'sum', in the pinned program and in every row, IS THE sha256 OF THE DUMP (.gsa) THAT YbulkbckmProg.lean LOADS. Nothing in Lean hashes anything: it is a label: what it is worth is what the hold of that sum in a sandbox is worth. -/
noncomputable def Yba.pinned : Pinned := { name := "ybulkbckm", sum := "fb762b2fc5050d1c3009590d019fe629dea894cd9ca5e8d5b6abb3e510fbe284", checked := Yba.checked }
namespace Rows
def none {H : Type} : Left H := { results := [], args := [] }

/-- 'gelf.LawS2677CText': WHATEVER THE INPUT: true; the input reads as it did. -/
def lawS2677CTextSpec : ChangeSpec := { name := "lawS2677CText", fn := fun _ => fun
  | [d1, d2, d3] => { results := [.lit (.bool true)], args := [d1, d2, d3] }
  | _ => none }
def lawS2677CTextRow : OpenClaim := { program := "ybulkbckm", sum := "fb762b2fc5050d1c3009590d019fe629dea894cd9ca5e8d5b6abb3e510fbe284", func := "example.com/emberline/emberline/pkg/gelf.LawS2677CText", spec := "lawS2677CText", inPlace := ["internal/bytealg.MakeNoZero", "internal/abi.NoEscape"], apart := false }
def LawS2677CTextSaid : Prop := lawS2677CTextRow.holds Yba.pinned (OpenSpec.ofChange lawS2677CTextSpec)

/-- ITS FALSE NEIGHBOUR: 'it returns false'. Refute it at one input. -/
def lawS2677CTextWrong : ChangeSpec := { name := "lawS2677CText", fn := fun _ => fun
  | [d1, d2, d3] => { results := [.lit (.bool false)], args := [d1, d2, d3] }
  | _ => none }
def LawS2677CTextWrongFalsely : Prop := lawS2677CTextRow.holds Yba.pinned (OpenSpec.ofChange lawS2677CTextWrong)

end Rows
end Go.Proofs.Ybulkbckm

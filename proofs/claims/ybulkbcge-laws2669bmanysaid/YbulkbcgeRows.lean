/-
  No cell of these rows narrows 'for every input' (looked for: loops, veiled, ifaces, maps, wideKeys, modest, calm, conditions, laid).
  DERIVED. THE GIVEN ROWS OF THIS SEAT. 5 by the template 'for every input the law returns true; each argument reads behind the call as it read before'; 0 by the template 'total and deterministic' (their statements: YbulkbcgeTotals.lean).
  GIVEN WITH THE SEED: the statements are not yours to turn. If you find one false, say at which input.
  Laid BY PROGRAM, IN A SANDBOX (cutbox-rows.mjs): the forced cells as the released guide's own fill.sh prints them over the translation 372f11f7fed87cf1… (all of the seat's roots in one cut). By AI agents, Wed Nov 11 2026. No macro, syntax, notation, axiom, sorry.
-/
import Derived.Test.YbulkbcgeChecked
import GoSem.Claim
import GoSem.ClaimJoined
import GoSem.ClaimMapViews
import Derived.JoinedTies
import Derived.KernelRfl
namespace Go.Proofs.Ybulkbcge
/- THE CELL 'sum', in the pinned program and in every row, IS THE sha256 OF THE DUMP (.gsa) THAT YbulkbcgeProg.lean LOADS. Nothing in Lean hashes anything: it is a label: what it is worth is what the hold of that sum in a sandbox is worth. -/
noncomputable def Yba.pinned : Pinned := { name := "ybulkbcge", sum := "372f11f7fed87cf1cdd2e95fb89dea9e79e1d8e372f8da2014ba3fd8f5bf0e7d", checked := Yba.checked }
namespace Rows
def none {H : Type} : Left H := { results := [], args := [] }

/-- 'register.LawS2669BSorted': WHATEVER THE INPUT: true; the input reads as it did. -/
def lawS2669BSortedSpec : ChangeSpec := { name := "lawS2669BSorted", fn := fun _ => fun
  | [d1, d2] => { results := [.lit (.bool true)], args := [d1, d2] }
  | _ => none }
def lawS2669BSortedRow : OpenClaim := { program := "ybulkbcge", sum := "372f11f7fed87cf1cdd2e95fb89dea9e79e1d8e372f8da2014ba3fd8f5bf0e7d", func := "example.com/cadastre/cadastre/pkg/register.LawS2669BSorted", spec := "lawS2669BSorted", inPlace := ["slices.overlaps[int]", "slices.overlaps[[]int]"], unfollowed := true, recurses := true, apart := false }
def LawS2669BSortedSaid : Prop := lawS2669BSortedRow.holds Yba.pinned (OpenSpec.ofChange lawS2669BSortedSpec)

/-- ITS FALSE NEIGHBOUR: 'it returns false'. Refute it at one input. -/
def lawS2669BSortedWrong : ChangeSpec := { name := "lawS2669BSorted", fn := fun _ => fun
  | [d1, d2] => { results := [.lit (.bool false)], args := [d1, d2] }
  | _ => none }
def LawS2669BSortedWrongFalsely : Prop := lawS2669BSortedRow.holds Yba.pinned (OpenSpec.ofChange lawS2669BSortedWrong)

/-- 'register.LawS2669BMany': WHATEVER THE INPUT: true; the input reads as it did. -/
def lawS2669BManySpec : ChangeSpec := { name := "lawS2669BMany", fn := fun _ => fun
  | [d1, d2, d3, d4] => { results := [.lit (.bool true)], args := [d1, d2, d3, d4] }
  | _ => none }
def lawS2669BManyRow : OpenClaim := { program := "ybulkbcge", sum := "372f11f7fed87cf1cdd2e95fb89dea9e79e1d8e372f8da2014ba3fd8f5bf0e7d", func := "example.com/cadastre/cadastre/pkg/register.LawS2669BMany", spec := "lawS2669BMany", inPlace := ["slices.overlaps[int]", "slices.overlaps[[]int]"], unfollowed := true, recurses := true, apart := false }
def LawS2669BManySaid : Prop := lawS2669BManyRow.holds Yba.pinned (OpenSpec.ofChange lawS2669BManySpec)

/-- ITS FALSE NEIGHBOUR: 'it returns false'. Refute it at one input. -/
def lawS2669BManyWrong : ChangeSpec := { name := "lawS2669BMany", fn := fun _ => fun
  | [d1, d2, d3, d4] => { results := [.lit (.bool false)], args := [d1, d2, d3, d4] }
  | _ => none }
def LawS2669BManyWrongFalsely : Prop := lawS2669BManyRow.holds Yba.pinned (OpenSpec.ofChange lawS2669BManyWrong)

/-- 'register.LawS2669CModel': WHATEVER THE INPUT: true; the input reads as it did. -/
def lawS2669CModelSpec : ChangeSpec := { name := "lawS2669CModel", fn := fun _ => fun
  | [d1, d2] => { results := [.lit (.bool true)], args := [d1, d2] }
  | _ => none }
def lawS2669CModelRow : OpenClaim := { program := "ybulkbcge", sum := "372f11f7fed87cf1cdd2e95fb89dea9e79e1d8e372f8da2014ba3fd8f5bf0e7d", func := "example.com/cadastre/cadastre/pkg/register.LawS2669CModel", spec := "lawS2669CModel", apart := false }
def LawS2669CModelSaid : Prop := lawS2669CModelRow.holds Yba.pinned (OpenSpec.ofChange lawS2669CModelSpec)

/-- ITS FALSE NEIGHBOUR: 'it returns false'. Refute it at one input. -/
def lawS2669CModelWrong : ChangeSpec := { name := "lawS2669CModel", fn := fun _ => fun
  | [d1, d2] => { results := [.lit (.bool false)], args := [d1, d2] }
  | _ => none }
def LawS2669CModelWrongFalsely : Prop := lawS2669CModelRow.holds Yba.pinned (OpenSpec.ofChange lawS2669CModelWrong)

/-- 'register.LawS2669CAntisym': WHATEVER THE INPUT: true; the input reads as it did. -/
def lawS2669CAntisymSpec : ChangeSpec := { name := "lawS2669CAntisym", fn := fun _ => fun
  | [d1, d2] => { results := [.lit (.bool true)], args := [d1, d2] }
  | _ => none }
def lawS2669CAntisymRow : OpenClaim := { program := "ybulkbcge", sum := "372f11f7fed87cf1cdd2e95fb89dea9e79e1d8e372f8da2014ba3fd8f5bf0e7d", func := "example.com/cadastre/cadastre/pkg/register.LawS2669CAntisym", spec := "lawS2669CAntisym", apart := false }
def LawS2669CAntisymSaid : Prop := lawS2669CAntisymRow.holds Yba.pinned (OpenSpec.ofChange lawS2669CAntisymSpec)

/-- ITS FALSE NEIGHBOUR: 'it returns false'. Refute it at one input. -/
def lawS2669CAntisymWrong : ChangeSpec := { name := "lawS2669CAntisym", fn := fun _ => fun
  | [d1, d2] => { results := [.lit (.bool false)], args := [d1, d2] }
  | _ => none }
def LawS2669CAntisymWrongFalsely : Prop := lawS2669CAntisymRow.holds Yba.pinned (OpenSpec.ofChange lawS2669CAntisymWrong)

/-- 'register.LawS2669CPrefix': WHATEVER THE INPUT: true; the input reads as it did. -/
def lawS2669CPrefixSpec : ChangeSpec := { name := "lawS2669CPrefix", fn := fun _ => fun
  | [d1, d2] => { results := [.lit (.bool true)], args := [d1, d2] }
  | _ => none }
def lawS2669CPrefixRow : OpenClaim := { program := "ybulkbcge", sum := "372f11f7fed87cf1cdd2e95fb89dea9e79e1d8e372f8da2014ba3fd8f5bf0e7d", func := "example.com/cadastre/cadastre/pkg/register.LawS2669CPrefix", spec := "lawS2669CPrefix", apart := false }
def LawS2669CPrefixSaid : Prop := lawS2669CPrefixRow.holds Yba.pinned (OpenSpec.ofChange lawS2669CPrefixSpec)

/-- ITS FALSE NEIGHBOUR: 'it returns false'. Refute it at one input. -/
def lawS2669CPrefixWrong : ChangeSpec := { name := "lawS2669CPrefix", fn := fun _ => fun
  | [d1, d2] => { results := [.lit (.bool false)], args := [d1, d2] }
  | _ => none }
def LawS2669CPrefixWrongFalsely : Prop := lawS2669CPrefixRow.holds Yba.pinned (OpenSpec.ofChange lawS2669CPrefixWrong)

end Rows
end Go.Proofs.Ybulkbcge

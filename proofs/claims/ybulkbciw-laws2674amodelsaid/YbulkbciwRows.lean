/-
  NARROWER THAN 'FOR EVERY INPUT', by the rows' own cells (each row's printed sentence says how): LawS2674AModel: loops · LawS2674AMonotone: loops.
  DERIVED. THE GIVEN ROWS OF THIS SEAT. 5 by the template 'for every input the law returns true; each argument reads behind the call as it read before'; 0 by the template 'total and deterministic' (their statements: YbulkbciwTotals.lean).
  GIVEN WITH THE SEED: the statements are not yours to turn. If you find one false, say at which input.
  Laid BY PROGRAM, IN A SANDBOX (cutbox-rows.mjs): the forced cells as the released guide's own fill.sh prints them over the translation 68c6731da4cbb808… (all of the seat's roots in one cut). By AI agents, Wed Nov 11 2026. No macro, syntax, notation, axiom, sorry.
-/
import Derived.Test.YbulkbciwChecked
import GoSem.Claim
import GoSem.ClaimJoined
import GoSem.ClaimMapViews
import Derived.JoinedTies
import Derived.KernelRfl
namespace Go.Proofs.Ybulkbciw
/- THE CELL 'sum', in the pinned program and in every row, IS THE sha256 OF THE DUMP (.gsa) THAT YbulkbciwProg.lean LOADS. Nothing in Lean hashes anything: it is a label: what it is worth is what the hold of that sum in a sandbox is worth. -/
noncomputable def Yba.pinned : Pinned := { name := "ybulkbciw", sum := "68c6731da4cbb8087b324e858e3d5cf2b068d81c60368be80e6fcb5c2a048926", checked := Yba.checked }
namespace Rows
def none {H : Type} : Left H := { results := [], args := [] }

/-- 'quorumweave.LawS2674AModel': WHATEVER THE INPUT: true; the input reads as it did. -/
def lawS2674AModelSpec : ChangeSpec := { name := "lawS2674AModel", fn := fun _ => fun
  | [d1, d2, d3, d4, d5] => { results := [.lit (.bool true)], args := [d1, d2, d3, d4, d5] }
  | _ => none }
def lawS2674AModelRow : OpenClaim := { program := "ybulkbciw", sum := "68c6731da4cbb8087b324e858e3d5cf2b068d81c60368be80e6fcb5c2a048926", func := "example.com/quorumweave/quorumweave.LawS2674AModel", spec := "lawS2674AModel", unfollowed := true, recurses := true, loops := true, apart := false }
def LawS2674AModelSaid : Prop := lawS2674AModelRow.holds Yba.pinned (OpenSpec.ofChange lawS2674AModelSpec)

/-- ITS FALSE NEIGHBOUR: 'it returns false'. Refute it at one input. -/
def lawS2674AModelWrong : ChangeSpec := { name := "lawS2674AModel", fn := fun _ => fun
  | [d1, d2, d3, d4, d5] => { results := [.lit (.bool false)], args := [d1, d2, d3, d4, d5] }
  | _ => none }
def LawS2674AModelWrongFalsely : Prop := lawS2674AModelRow.holds Yba.pinned (OpenSpec.ofChange lawS2674AModelWrong)

/-- 'quorumweave.LawS2674AMonotone': WHATEVER THE INPUT: true; the input reads as it did. -/
def lawS2674AMonotoneSpec : ChangeSpec := { name := "lawS2674AMonotone", fn := fun _ => fun
  | [d1, d2, d3, d4, d5, d6] => { results := [.lit (.bool true)], args := [d1, d2, d3, d4, d5, d6] }
  | _ => none }
def lawS2674AMonotoneRow : OpenClaim := { program := "ybulkbciw", sum := "68c6731da4cbb8087b324e858e3d5cf2b068d81c60368be80e6fcb5c2a048926", func := "example.com/quorumweave/quorumweave.LawS2674AMonotone", spec := "lawS2674AMonotone", unfollowed := true, recurses := true, loops := true, apart := false }
def LawS2674AMonotoneSaid : Prop := lawS2674AMonotoneRow.holds Yba.pinned (OpenSpec.ofChange lawS2674AMonotoneSpec)

/-- ITS FALSE NEIGHBOUR: 'it returns false'. Refute it at one input. -/
def lawS2674AMonotoneWrong : ChangeSpec := { name := "lawS2674AMonotone", fn := fun _ => fun
  | [d1, d2, d3, d4, d5, d6] => { results := [.lit (.bool false)], args := [d1, d2, d3, d4, d5, d6] }
  | _ => none }
def LawS2674AMonotoneWrongFalsely : Prop := lawS2674AMonotoneRow.holds Yba.pinned (OpenSpec.ofChange lawS2674AMonotoneWrong)

/-- 'quorumweave.LawS2674BKeepsHolding': WHATEVER THE INPUT: true; the input reads as it did. -/
def lawS2674BKeepsHoldingSpec : ChangeSpec := { name := "lawS2674BKeepsHolding", fn := fun _ => fun
  | [d1, d2, d3, d4] => { results := [.lit (.bool true)], args := [d1, d2, d3, d4] }
  | _ => none }
def lawS2674BKeepsHoldingRow : OpenClaim := { program := "ybulkbciw", sum := "68c6731da4cbb8087b324e858e3d5cf2b068d81c60368be80e6fcb5c2a048926", func := "example.com/quorumweave/quorumweave.LawS2674BKeepsHolding", spec := "lawS2674BKeepsHolding", unfollowed := true, recurses := true, apart := false }
def LawS2674BKeepsHoldingSaid : Prop := lawS2674BKeepsHoldingRow.holds Yba.pinned (OpenSpec.ofChange lawS2674BKeepsHoldingSpec)

/-- ITS FALSE NEIGHBOUR: 'it returns false'. Refute it at one input. -/
def lawS2674BKeepsHoldingWrong : ChangeSpec := { name := "lawS2674BKeepsHolding", fn := fun _ => fun
  | [d1, d2, d3, d4] => { results := [.lit (.bool false)], args := [d1, d2, d3, d4] }
  | _ => none }
def LawS2674BKeepsHoldingWrongFalsely : Prop := lawS2674BKeepsHoldingRow.holds Yba.pinned (OpenSpec.ofChange lawS2674BKeepsHoldingWrong)

/-- 'quorumweave.LawS2674BSortedForm': WHATEVER THE INPUT: true; the input reads as it did. -/
def lawS2674BSortedFormSpec : ChangeSpec := { name := "lawS2674BSortedForm", fn := fun _ => fun
  | [d1, d2, d3] => { results := [.lit (.bool true)], args := [d1, d2, d3] }
  | _ => none }
def lawS2674BSortedFormRow : OpenClaim := { program := "ybulkbciw", sum := "68c6731da4cbb8087b324e858e3d5cf2b068d81c60368be80e6fcb5c2a048926", func := "example.com/quorumweave/quorumweave.LawS2674BSortedForm", spec := "lawS2674BSortedForm", unfollowed := true, recurses := true, apart := false }
def LawS2674BSortedFormSaid : Prop := lawS2674BSortedFormRow.holds Yba.pinned (OpenSpec.ofChange lawS2674BSortedFormSpec)

/-- ITS FALSE NEIGHBOUR: 'it returns false'. Refute it at one input. -/
def lawS2674BSortedFormWrong : ChangeSpec := { name := "lawS2674BSortedForm", fn := fun _ => fun
  | [d1, d2, d3] => { results := [.lit (.bool false)], args := [d1, d2, d3] }
  | _ => none }
def LawS2674BSortedFormWrongFalsely : Prop := lawS2674BSortedFormRow.holds Yba.pinned (OpenSpec.ofChange lawS2674BSortedFormWrong)

/-- 'quorumweave.LawS2674BOrderFree': WHATEVER THE INPUT: true; the input reads as it did. -/
def lawS2674BOrderFreeSpec : ChangeSpec := { name := "lawS2674BOrderFree", fn := fun _ => fun
  | [d1, d2, d3] => { results := [.lit (.bool true)], args := [d1, d2, d3] }
  | _ => none }
def lawS2674BOrderFreeRow : OpenClaim := { program := "ybulkbciw", sum := "68c6731da4cbb8087b324e858e3d5cf2b068d81c60368be80e6fcb5c2a048926", func := "example.com/quorumweave/quorumweave.LawS2674BOrderFree", spec := "lawS2674BOrderFree", unfollowed := true, recurses := true, apart := false }
def LawS2674BOrderFreeSaid : Prop := lawS2674BOrderFreeRow.holds Yba.pinned (OpenSpec.ofChange lawS2674BOrderFreeSpec)

/-- ITS FALSE NEIGHBOUR: 'it returns false'. Refute it at one input. -/
def lawS2674BOrderFreeWrong : ChangeSpec := { name := "lawS2674BOrderFree", fn := fun _ => fun
  | [d1, d2, d3] => { results := [.lit (.bool false)], args := [d1, d2, d3] }
  | _ => none }
def LawS2674BOrderFreeWrongFalsely : Prop := lawS2674BOrderFreeRow.holds Yba.pinned (OpenSpec.ofChange lawS2674BOrderFreeWrong)

end Rows
end Go.Proofs.Ybulkbciw

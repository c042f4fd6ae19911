/-
  No cell of these rows narrows 'for every input' (looked for: loops, veiled, ifaces, maps, wideKeys, modest, calm, conditions, laid).
  DERIVED. THE GIVEN ROWS OF THIS SEAT. 2 by the template 'for every input the law returns true; each argument reads behind the call as it read before'; 0 by the template 'total and deterministic' (their statements: YbulkaqnyTotals.lean).
  GIVEN WITH THE SEED: the statements are not yours to turn. If you find one false, say at which input.
  Laid BY PROGRAM, IN A SANDBOX (cutbox-rows.mjs): the forced cells as the released guide's own fill.sh prints them over the translation 4e0540a9946b85c5… (all of the seat's roots in one cut). By AI agents, Wed Nov 11 2026. No macro, syntax, notation, axiom, sorry.
-/
import Derived.Test.YbulkaqnyChecked
import GoSem.Claim
import GoSem.ClaimJoined
import GoSem.ClaimMapViews
import Derived.JoinedTies
import Derived.KernelRfl
namespace Go.Proofs.Ybulkaqny
/- THE CELL 'sum', in the pinned program and in every row, IS THE sha256 OF THE DUMP (.gsa) THAT YbulkaqnyProg.lean LOADS. Nothing in Lean hashes anything: it is a label: what it is worth is what the hold of that sum in a sandbox is worth. -/
noncomputable def Yba.pinned : Pinned := { name := "ybulkaqny", sum := "4e0540a9946b85c57c5d4f11865941f189803808fad208feedb5069d92760962", checked := Yba.checked }
namespace Rows
def none {H : Type} : Left H := { results := [], args := [] }

/-- 'holdfast.LawS2104BForwardInArrivalOrder': WHATEVER THE INPUT: true; the input reads as it did. -/
def lawS2104BForwardInArrivalOrderSpec : ChangeSpec := { name := "lawS2104BForwardInArrivalOrder", fn := fun _ => fun
  | [d] => { results := [.lit (.bool true)], args := [d] }
  | _ => none }
def lawS2104BForwardInArrivalOrderRow : OpenClaim := { program := "ybulkaqny", sum := "4e0540a9946b85c57c5d4f11865941f189803808fad208feedb5069d92760962", func := "example.com/holdfast/holdfast.LawS2104BForwardInArrivalOrder", spec := "lawS2104BForwardInArrivalOrder", apart := false }
def LawS2104BForwardInArrivalOrderSaid : Prop := lawS2104BForwardInArrivalOrderRow.holds Yba.pinned (OpenSpec.ofChange lawS2104BForwardInArrivalOrderSpec)

/-- ITS FALSE NEIGHBOUR: 'it returns false'. Refute it at one input. -/
def lawS2104BForwardInArrivalOrderWrong : ChangeSpec := { name := "lawS2104BForwardInArrivalOrder", fn := fun _ => fun
  | [d] => { results := [.lit (.bool false)], args := [d] }
  | _ => none }
def LawS2104BForwardInArrivalOrderWrongFalsely : Prop := lawS2104BForwardInArrivalOrderRow.holds Yba.pinned (OpenSpec.ofChange lawS2104BForwardInArrivalOrderWrong)

/-- 'holdfast.LawS2104BBackInReverseOrder': WHATEVER THE INPUT: true; the input reads as it did. -/
def lawS2104BBackInReverseOrderSpec : ChangeSpec := { name := "lawS2104BBackInReverseOrder", fn := fun _ => fun
  | [d] => { results := [.lit (.bool true)], args := [d] }
  | _ => none }
def lawS2104BBackInReverseOrderRow : OpenClaim := { program := "ybulkaqny", sum := "4e0540a9946b85c57c5d4f11865941f189803808fad208feedb5069d92760962", func := "example.com/holdfast/holdfast.LawS2104BBackInReverseOrder", spec := "lawS2104BBackInReverseOrder", apart := false }
def LawS2104BBackInReverseOrderSaid : Prop := lawS2104BBackInReverseOrderRow.holds Yba.pinned (OpenSpec.ofChange lawS2104BBackInReverseOrderSpec)

/-- ITS FALSE NEIGHBOUR: 'it returns false'. Refute it at one input. -/
def lawS2104BBackInReverseOrderWrong : ChangeSpec := { name := "lawS2104BBackInReverseOrder", fn := fun _ => fun
  | [d] => { results := [.lit (.bool false)], args := [d] }
  | _ => none }
def LawS2104BBackInReverseOrderWrongFalsely : Prop := lawS2104BBackInReverseOrderRow.holds Yba.pinned (OpenSpec.ofChange lawS2104BBackInReverseOrderWrong)

end Rows
end Go.Proofs.Ybulkaqny

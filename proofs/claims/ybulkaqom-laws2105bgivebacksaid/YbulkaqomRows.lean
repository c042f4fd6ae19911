/-
  No cell of these rows narrows 'for every input' (looked for: loops, veiled, ifaces, maps, wideKeys, modest, calm, conditions, laid).
  DERIVED. THE GIVEN ROWS OF THIS SEAT. 6 by the template 'for every input the law returns true; each argument reads behind the call as it read before'; 0 by the template 'total and deterministic' (their statements: YbulkaqomTotals.lean).
  GIVEN WITH THE SEED: the statements are not yours to turn. If you find one false, say at which input.
  Laid BY PROGRAM, IN A SANDBOX (cutbox-rows.mjs): the forced cells as the released guide's own fill.sh prints them over the translation caca352aeb229c02… (all of the seat's roots in one cut). By AI agents, Wed Nov 11 2026. No macro, syntax, notation, axiom, sorry.
-/
import Derived.Test.YbulkaqomChecked
import GoSem.Claim
import GoSem.ClaimJoined
import GoSem.ClaimMapViews
import Derived.JoinedTies
import Derived.KernelRfl
namespace Go.Proofs.Ybulkaqom
/- THE CELL 'sum', in the pinned program and in every row, IS THE sha256 OF THE DUMP (.gsa) THAT YbulkaqomProg.lean LOADS. Nothing in Lean hashes anything: it is a label: what it is worth is what the hold of that sum in a sandbox is worth. -/
noncomputable def Yba.pinned : Pinned := { name := "ybulkaqom", sum := "caca352aeb229c029ee2fc0350cfc2c9f0b3b3d36adb18aa1c86e9360154a341", checked := Yba.checked }
namespace Rows
def none {H : Type} : Left H := { results := [], args := [] }

/-- 'spillway.LawS2105AModel': WHATEVER THE INPUT: true; the input reads as it did. -/
def lawS2105AModelSpec : ChangeSpec := { name := "lawS2105AModel", fn := fun _ => fun
  | [d1, d2, d3, d4] => { results := [.lit (.bool true)], args := [d1, d2, d3, d4] }
  | _ => none }
def lawS2105AModelRow : OpenClaim := { program := "ybulkaqom", sum := "caca352aeb229c029ee2fc0350cfc2c9f0b3b3d36adb18aa1c86e9360154a341", func := "example.com/spillway/spillway.LawS2105AModel", spec := "lawS2105AModel", inPlace := ["math/bits.Add64"], apart := false }
def LawS2105AModelSaid : Prop := lawS2105AModelRow.holds Yba.pinned (OpenSpec.ofChange lawS2105AModelSpec)

/-- ITS FALSE NEIGHBOUR: 'it returns false'. Refute it at one input. -/
def lawS2105AModelWrong : ChangeSpec := { name := "lawS2105AModel", fn := fun _ => fun
  | [d1, d2, d3, d4] => { results := [.lit (.bool false)], args := [d1, d2, d3, d4] }
  | _ => none }
def LawS2105AModelWrongFalsely : Prop := lawS2105AModelRow.holds Yba.pinned (OpenSpec.ofChange lawS2105AModelWrong)

/-- 'spillway.LawS2105ADueAgrees': WHATEVER THE INPUT: true; the input reads as it did. -/
def lawS2105ADueAgreesSpec : ChangeSpec := { name := "lawS2105ADueAgrees", fn := fun _ => fun
  | [d1, d2, d3, d4] => { results := [.lit (.bool true)], args := [d1, d2, d3, d4] }
  | _ => none }
def lawS2105ADueAgreesRow : OpenClaim := { program := "ybulkaqom", sum := "caca352aeb229c029ee2fc0350cfc2c9f0b3b3d36adb18aa1c86e9360154a341", func := "example.com/spillway/spillway.LawS2105ADueAgrees", spec := "lawS2105ADueAgrees", apart := false }
def LawS2105ADueAgreesSaid : Prop := lawS2105ADueAgreesRow.holds Yba.pinned (OpenSpec.ofChange lawS2105ADueAgreesSpec)

/-- ITS FALSE NEIGHBOUR: 'it returns false'. Refute it at one input. -/
def lawS2105ADueAgreesWrong : ChangeSpec := { name := "lawS2105ADueAgrees", fn := fun _ => fun
  | [d1, d2, d3, d4] => { results := [.lit (.bool false)], args := [d1, d2, d3, d4] }
  | _ => none }
def LawS2105ADueAgreesWrongFalsely : Prop := lawS2105ADueAgreesRow.holds Yba.pinned (OpenSpec.ofChange lawS2105ADueAgreesWrong)

/-- 'spillway.LawS2105BGiveBack': WHATEVER THE INPUT: true; the input reads as it did. -/
def lawS2105BGiveBackSpec : ChangeSpec := { name := "lawS2105BGiveBack", fn := fun _ => fun
  | [d1, d2, d3, d4, d5, d6, d7, d8, d9, d10, d11] => { results := [.lit (.bool true)], args := [d1, d2, d3, d4, d5, d6, d7, d8, d9, d10, d11] }
  | _ => none }
def lawS2105BGiveBackRow : OpenClaim := { program := "ybulkaqom", sum := "caca352aeb229c029ee2fc0350cfc2c9f0b3b3d36adb18aa1c86e9360154a341", func := "example.com/spillway/spillway.LawS2105BGiveBack", spec := "lawS2105BGiveBack", inPlace := ["math/bits.Sub64", "math/bits.Add64"], apart := false }
def LawS2105BGiveBackSaid : Prop := lawS2105BGiveBackRow.holds Yba.pinned (OpenSpec.ofChange lawS2105BGiveBackSpec)

/-- ITS FALSE NEIGHBOUR: 'it returns false'. Refute it at one input. -/
def lawS2105BGiveBackWrong : ChangeSpec := { name := "lawS2105BGiveBack", fn := fun _ => fun
  | [d1, d2, d3, d4, d5, d6, d7, d8, d9, d10, d11] => { results := [.lit (.bool false)], args := [d1, d2, d3, d4, d5, d6, d7, d8, d9, d10, d11] }
  | _ => none }
def LawS2105BGiveBackWrongFalsely : Prop := lawS2105BGiveBackRow.holds Yba.pinned (OpenSpec.ofChange lawS2105BGiveBackWrong)

/-- 'spillway.LawS2105BRoundTrip': WHATEVER THE INPUT: true; the input reads as it did. -/
def lawS2105BRoundTripSpec : ChangeSpec := { name := "lawS2105BRoundTrip", fn := fun _ => fun
  | [d1, d2, d3, d4, d5] => { results := [.lit (.bool true)], args := [d1, d2, d3, d4, d5] }
  | _ => none }
def lawS2105BRoundTripRow : OpenClaim := { program := "ybulkaqom", sum := "caca352aeb229c029ee2fc0350cfc2c9f0b3b3d36adb18aa1c86e9360154a341", func := "example.com/spillway/spillway.LawS2105BRoundTrip", spec := "lawS2105BRoundTrip", inPlace := ["math/bits.Add64", "math/bits.Sub64"], apart := false }
def LawS2105BRoundTripSaid : Prop := lawS2105BRoundTripRow.holds Yba.pinned (OpenSpec.ofChange lawS2105BRoundTripSpec)

/-- ITS FALSE NEIGHBOUR: 'it returns false'. Refute it at one input. -/
def lawS2105BRoundTripWrong : ChangeSpec := { name := "lawS2105BRoundTrip", fn := fun _ => fun
  | [d1, d2, d3, d4, d5] => { results := [.lit (.bool false)], args := [d1, d2, d3, d4, d5] }
  | _ => none }
def LawS2105BRoundTripWrongFalsely : Prop := lawS2105BRoundTripRow.holds Yba.pinned (OpenSpec.ofChange lawS2105BRoundTripWrong)

/-- 'spillway.LawS2105CModel': WHATEVER THE INPUT: true; the input reads as it did. -/
def lawS2105CModelSpec : ChangeSpec := { name := "lawS2105CModel", fn := fun _ => fun
  | [d1, d2] => { results := [.lit (.bool true)], args := [d1, d2] }
  | _ => none }
def lawS2105CModelRow : OpenClaim := { program := "ybulkaqom", sum := "caca352aeb229c029ee2fc0350cfc2c9f0b3b3d36adb18aa1c86e9360154a341", func := "example.com/spillway/spillway.LawS2105CModel", spec := "lawS2105CModel", apart := false }
def LawS2105CModelSaid : Prop := lawS2105CModelRow.holds Yba.pinned (OpenSpec.ofChange lawS2105CModelSpec)

/-- ITS FALSE NEIGHBOUR: 'it returns false'. Refute it at one input. -/
def lawS2105CModelWrong : ChangeSpec := { name := "lawS2105CModel", fn := fun _ => fun
  | [d1, d2] => { results := [.lit (.bool false)], args := [d1, d2] }
  | _ => none }
def LawS2105CModelWrongFalsely : Prop := lawS2105CModelRow.holds Yba.pinned (OpenSpec.ofChange lawS2105CModelWrong)

/-- 'spillway.LawS2105CMonotone': WHATEVER THE INPUT: true; the input reads as it did. -/
def lawS2105CMonotoneSpec : ChangeSpec := { name := "lawS2105CMonotone", fn := fun _ => fun
  | [d1, d2, d3] => { results := [.lit (.bool true)], args := [d1, d2, d3] }
  | _ => none }
def lawS2105CMonotoneRow : OpenClaim := { program := "ybulkaqom", sum := "caca352aeb229c029ee2fc0350cfc2c9f0b3b3d36adb18aa1c86e9360154a341", func := "example.com/spillway/spillway.LawS2105CMonotone", spec := "lawS2105CMonotone", apart := false }
def LawS2105CMonotoneSaid : Prop := lawS2105CMonotoneRow.holds Yba.pinned (OpenSpec.ofChange lawS2105CMonotoneSpec)

/-- ITS FALSE NEIGHBOUR: 'it returns false'. Refute it at one input. -/
def lawS2105CMonotoneWrong : ChangeSpec := { name := "lawS2105CMonotone", fn := fun _ => fun
  | [d1, d2, d3] => { results := [.lit (.bool false)], args := [d1, d2, d3] }
  | _ => none }
def LawS2105CMonotoneWrongFalsely : Prop := lawS2105CMonotoneRow.holds Yba.pinned (OpenSpec.ofChange lawS2105CMonotoneWrong)

end Rows
end Go.Proofs.Ybulkaqom

/-
  No cell of these rows narrows 'for every input' (looked for: loops, veiled, ifaces, maps, wideKeys, modest, calm, conditions, laid).
  DERIVED. THE GIVEN ROWS OF THIS SEAT. 3 by the template 'for every input the law returns true; each argument reads behind the call as it read before'; 0 by the template 'total and deterministic' (their statements: YbulkaqxqTotals.lean).
  GIVEN WITH THE SEED: the statements are not yours to turn. If you find one false, say at which input.
  Laid BY PROGRAM, IN A SANDBOX (cutbox-rows.mjs): the forced cells as the released guide's own fill.sh prints them over the translation eacf021fb243ba12… (all of the seat's roots in one cut). By AI agents, Wed Nov 11 2026. No macro, syntax, notation, axiom, sorry.
-/
import Derived.Test.YbulkaqxqChecked
import GoSem.Claim
import GoSem.ClaimJoined
import GoSem.ClaimMapViews
import Derived.JoinedTies
import Derived.KernelRfl
namespace Go.Proofs.Ybulkaqxq
/- THE CELL 'sum', in the pinned program and in every row, IS THE sha256 OF THE DUMP (.gsa) THAT YbulkaqxqProg.lean LOADS. Nothing in Lean hashes anything: it is a label: what it is worth is what the hold of that sum in a sandbox is worth. -/
noncomputable def Yba.pinned : Pinned := { name := "ybulkaqxq", sum := "eacf021fb243ba127453aecb16a2a121f1f7598d72557e12487a73b96cc56597", checked := Yba.checked }
namespace Rows
def none {H : Type} : Left H := { results := [], args := [] }

/-- 'commonmark.LawS2122ANewline': WHATEVER THE INPUT: true; the input reads as it did. -/
def lawS2122ANewlineSpec : ChangeSpec := { name := "lawS2122ANewline", fn := fun _ => fun
  | [d1, d2, d3] => { results := [.lit (.bool true)], args := [d1, d2, d3] }
  | _ => none }
def lawS2122ANewlineRow : OpenClaim := { program := "ybulkaqxq", sum := "eacf021fb243ba127453aecb16a2a121f1f7598d72557e12487a73b96cc56597", func := "example.com/orrery/orrery/internal/commonmark.LawS2122ANewline", spec := "lawS2122ANewline", apart := false }
def LawS2122ANewlineSaid : Prop := lawS2122ANewlineRow.holds Yba.pinned (OpenSpec.ofChange lawS2122ANewlineSpec)

/-- ITS FALSE NEIGHBOUR: 'it returns false'. Refute it at one input. -/
def lawS2122ANewlineWrong : ChangeSpec := { name := "lawS2122ANewline", fn := fun _ => fun
  | [d1, d2, d3] => { results := [.lit (.bool false)], args := [d1, d2, d3] }
  | _ => none }
def LawS2122ANewlineWrongFalsely : Prop := lawS2122ANewlineRow.holds Yba.pinned (OpenSpec.ofChange lawS2122ANewlineWrong)

/-- 'plan.LawS2122BModel': WHATEVER THE INPUT: true; the input reads as it did. -/
def lawS2122BModelSpec : ChangeSpec := { name := "lawS2122BModel", fn := fun _ => fun
  | [d1, d2] => { results := [.lit (.bool true)], args := [d1, d2] }
  | _ => none }
def lawS2122BModelRow : OpenClaim := { program := "ybulkaqxq", sum := "eacf021fb243ba127453aecb16a2a121f1f7598d72557e12487a73b96cc56597", func := "example.com/orrery/orrery/internal/plan.LawS2122BModel", spec := "lawS2122BModel", inPlace := ["internal/bytealg.IndexByteString", "internal/bytealg.IndexString"], named := ["internal/bytealg.MaxLen"], apart := false }
def LawS2122BModelSaid : Prop := lawS2122BModelRow.holds Yba.pinned (OpenSpec.ofChange lawS2122BModelSpec)

/-- ITS FALSE NEIGHBOUR: 'it returns false'. Refute it at one input. -/
def lawS2122BModelWrong : ChangeSpec := { name := "lawS2122BModel", fn := fun _ => fun
  | [d1, d2] => { results := [.lit (.bool false)], args := [d1, d2] }
  | _ => none }
def LawS2122BModelWrongFalsely : Prop := lawS2122BModelRow.holds Yba.pinned (OpenSpec.ofChange lawS2122BModelWrong)

/-- 'plan.LawS2122BShape': WHATEVER THE INPUT: true; the input reads as it did. -/
def lawS2122BShapeSpec : ChangeSpec := { name := "lawS2122BShape", fn := fun _ => fun
  | [d1, d2] => { results := [.lit (.bool true)], args := [d1, d2] }
  | _ => none }
def lawS2122BShapeRow : OpenClaim := { program := "ybulkaqxq", sum := "eacf021fb243ba127453aecb16a2a121f1f7598d72557e12487a73b96cc56597", func := "example.com/orrery/orrery/internal/plan.LawS2122BShape", spec := "lawS2122BShape", inPlace := ["internal/bytealg.IndexByteString", "internal/bytealg.IndexString"], named := ["internal/bytealg.MaxLen"], apart := false }
def LawS2122BShapeSaid : Prop := lawS2122BShapeRow.holds Yba.pinned (OpenSpec.ofChange lawS2122BShapeSpec)

/-- ITS FALSE NEIGHBOUR: 'it returns false'. Refute it at one input. -/
def lawS2122BShapeWrong : ChangeSpec := { name := "lawS2122BShape", fn := fun _ => fun
  | [d1, d2] => { results := [.lit (.bool false)], args := [d1, d2] }
  | _ => none }
def LawS2122BShapeWrongFalsely : Prop := lawS2122BShapeRow.holds Yba.pinned (OpenSpec.ofChange lawS2122BShapeWrong)

end Rows
end Go.Proofs.Ybulkaqxq

/-
  LawS2105BGiveBack, walked.
-/
import Derived.Test.YbulkaqomG2
import Derived.Test.YbulkaqomE
namespace Go.Proofs.Ybulkaqom
open Go.RowKit Go.ChangeMaps

def AtHeld (B : Nat) : Nat → Nat → Prop := fun k o => k = B ∧ (o = 17 ∨ o = 18)

/-- The first holding of the held keyStates. -/
theorem hkeep_any (B : Nat) (ol : Bool) (v : Value) (w : World) (c17 : w.cell? ⟨B, 17, none⟩ = some (.map none)) (c18 : w.cell? ⟨B, 18, none⟩ = some (.map none)) (z17 : w.frozen? ⟨B, 17, none⟩ = false) (z18 : w.frozen? ⟨B, 18, none⟩ = false) :
    Calls Yba.prog 16 #[.pointer (some ⟨B, 17, none⟩), .string kk, v, .bool ol] w fun e w' => e = .returned (.tuple #[]) ∧ ∃ r2, w.heap.size ≤ r2 ∧ Has w' r2 v ∧ HeldAt w' B r2 ol ∧ Kept (AtHeld B) w w' := by
  have hl : B < w.heap.size := lt_of_cell c17
  cases ol
  · refine (keepH_first_newer B v w c17 z17).mono ?_
    rintro e w' ⟨he, r, hr, hh, hc, hk⟩
    refine ⟨he, r, hr, hh, ⟨hc, (hk.cell B 18 hl (fun x => absurd x.2 (by decide))).trans c18, by omega⟩, hk.mono (fun k o _ x => ⟨x.1, .inl x.2⟩)⟩
  · refine (keepH_first_older B v w c18 z18).mono ?_
    rintro e w' ⟨he, r, hr, hh, hc, hk⟩
    refine ⟨he, r, hr, hh, ⟨(hk.cell B 17 hl (fun x => absurd x.2 (by decide))).trans c17, hc, by omega⟩, hk.mono (fun k o _ x => ⟨x.1, .inr x.2⟩)⟩

/-- Whether giveBack does anything; what the law expects behind it. -/
def mnF (mis : Bool) (n : Int) : Int := if mis then wrap64 (n + 1) else n
def actF (sp : Nat) (mis : Bool) : Bool := !(sp == 0) && !mis
def wF (a : Bool) (full lt : Int) (si : Nat) (T : Int) : Int := if a then newF full lt si T else full
def wS (a : Bool) (hs : Int) (si : Nat) (T : Int) : Int := if a then (if (si : Int) = 0 then hs - T else hs) else hs
def wO (a : Bool) (op : Nat) : Int := if a then op else op + 1

end Go.Proofs.Ybulkaqom

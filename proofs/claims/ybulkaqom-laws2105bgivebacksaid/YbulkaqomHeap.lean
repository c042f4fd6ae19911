/-
  MEMORY BUT FOR SOME CELLS ('Kept'). Own work on this program; nothing of the loaded program is named here.
-/
import Derived.WalkKit
import Derived.Deep.Draws
namespace Go.Proofs.Ybulkaqom
open Go Go.RowKit

/-- w' is w but for the cells that T lets go, and for new blocks. -/
structure Kept (T : Nat → Nat → Prop) (w w' : World) : Prop where
  os : w'.os = w.os
  tape : w'.tape = w.tape
  output : w'.output = w.output
  size : w.heap.size ≤ w'.heap.size
  block : ∀ k, k < w.heap.size → (∀ o, ¬ T k o) → w'.heap[k]? = w.heap[k]?
  cell : ∀ k o, k < w.heap.size → ¬ T k o → w'.cell? ⟨k, o, none⟩ = w.cell? ⟨k, o, none⟩
  frozen : ∀ k o, k < w.heap.size → w'.frozen? ⟨k, o, none⟩ = w.frozen? ⟨k, o, none⟩

theorem Kept.refl (T : Nat → Nat → Prop) (w : World) : Kept T w w :=
  ⟨rfl, rfl, rfl, Nat.le_refl _, fun _ _ _ => rfl, fun _ _ _ _ => rfl, fun _ _ _ => rfl⟩

theorem Kept.trans {T : Nat → Nat → Prop} {a b c : World} (h : Kept T a b) (k : Kept T b c) : Kept T a c :=
  ⟨k.os.trans h.os, k.tape.trans h.tape, k.output.trans h.output, Nat.le_trans h.size k.size,
   fun i hi ht => (k.block i (Nat.lt_of_lt_of_le hi h.size) ht).trans (h.block i hi ht),
   fun i o hi ht => (k.cell i o (Nat.lt_of_lt_of_le hi h.size) ht).trans (h.cell i o hi ht),
   fun i o hi => (k.frozen i o (Nat.lt_of_lt_of_le hi h.size)).trans (h.frozen i o hi)⟩

/-- What is let go may be more; of a block that was not there yet nothing is said. -/
theorem Kept.mono {T T' : Nat → Nat → Prop} {w w' : World} (h : Kept T w w') (hT : ∀ k o, k < w.heap.size → T k o → T' k o) : Kept T' w w' :=
  ⟨h.os, h.tape, h.output, h.size, fun k hk ht => h.block k hk (fun o => fun x => ht o (hT k o hk x)), fun k o hk ht => h.cell k o hk (fun x => ht (hT k o hk x)), h.frozen⟩

theorem Kept.drew {T : Nat → Nat → Prop} {a w : World} (h : Kept T a w) : Kept T a w.drew :=
  ⟨h.os, h.tape, h.output, h.size, h.block, h.cell, h.frozen⟩

theorem Kept.alloc {T : Nat → Nat → Prop} {a w : World} (h : Kept T a w) (o : Obj) : Kept T a (w.alloc o) :=
  h.trans ⟨rfl, rfl, rfl, by simp, fun k hk _ => Below.heap_alloc _ _ _ hk, fun k j hk _ => World.cell?_of_block (w := w) (Below.heap_alloc _ _ _ hk),
    fun k j hk => World.frozen?_of_block (w := w) (Below.heap_alloc _ _ _ hk)⟩

theorem addr_ne {b o k j : Nat} (h : ¬ (k = b ∧ j = o)) : (⟨b, o, none⟩ : Addr) ≠ ⟨k, j, none⟩ := by
  intro e; injection e with e1 e2; exact h ⟨e1.symm, e2.symm⟩

/-- A store at a cell that T lets go, or in a block that is new. -/
theorem Kept.setCell {T : Nat → Nat → Prop} {a w : World} (h : Kept T a w) {b o : Nat} (hp : T b o ∨ a.heap.size ≤ b) (u : Value) : Kept T a (w.setCell ⟨b, o, none⟩ u) := by
  refine ⟨h.os, h.tape, h.output, by simpa [World.setCell] using h.size, fun k hk ht => ?_, fun k j hk ht => ?_, fun k j hk => (World.frozen?_setCell w _ _ _).trans (h.frozen k j hk)⟩
  · refine (Below.heap_setCell w ⟨b, o, none⟩ u k ?_).trans (h.block k hk ht)
    rintro rfl
    rcases hp with hp | hp
    · exact ht o hp
    · exact absurd hk (Nat.not_lt.2 hp)
  · refine (World.cell?_setCell_other w ⟨b, o, none⟩ ⟨k, j, none⟩ u (addr_ne ?_)).trans (h.cell k j hk ht)
    rintro ⟨rfl, rfl⟩
    rcases hp with hp | hp
    · exact ht hp
    · omega

theorem Kept.below {T : Nat → Nat → Prop} {w w' : World} (h : Kept T w w') {B : Nat} (hB : ∀ k o, k < B → ¬ T k o) (hs : B ≤ w.heap.size) : Below B w w' :=
  ⟨h.os, h.tape, h.output, h.size, fun k hk => h.block k (by omega) (fun o => hB k o hk)⟩

theorem Kept.of_below {T : Nat → Nat → Prop} {w w' : World} (h : Below w.heap.size w w') : Kept T w w' :=
  ⟨h.os, h.tape, h.output, h.size, fun k hk _ => h.block k hk, fun k o hk _ => h.cell (p := ⟨k, o, none⟩) hk, fun k o hk => h.frozen (p := ⟨k, o, none⟩) hk⟩

theorem cell_set_same {w : World} {b o : Nat} {u v : Value} (h : w.cell? ⟨b, o, none⟩ = some u) : (w.setCell ⟨b, o, none⟩ v).cell? ⟨b, o, none⟩ = some v := World.cell?_setCell_same w _ _ h

/-- Two steps, the second over what the first has laid, too. -/
theorem Kept.trans' {T T' : Nat → Nat → Prop} {a b c : World} (h : Kept T a b) (k : Kept T' b c) (hT : ∀ x y, x < a.heap.size → T' x y → T x y) : Kept T a c := by
  have hsz := h.size
  exact ⟨k.os.trans h.os, k.tape.trans h.tape, k.output.trans h.output, Nat.le_trans h.size k.size,
    fun i hi ht => (k.block i (by omega) (fun o x => ht o (hT i o hi x))).trans (h.block i hi ht),
    fun i o hi ht => (k.cell i o (by omega) (fun x => ht (hT i o hi x))).trans (h.cell i o hi ht),
    fun i o hi => (k.frozen i o (by omega)).trans (h.frozen i o hi)⟩

theorem Kept.drewN {T : Nat → Nat → Prop} {a w : World} (h : Kept T a w) (q : Nat) : Kept T a (w.drewN q) :=
  ⟨h.os, h.tape, h.output, h.size, h.block, h.cell, h.frozen⟩

end Go.Proofs.Ybulkaqom

/-
  THE SETS OF MODES: bits 1 to 5 of a byte; each fact asked of all of them by the kernel.
-/
import Derived.Test.YbulkaqnyShelf
import Derived.WalkKit
namespace Go.Proofs.Ybulkaqny
open Go

/-- The set without m. -/
def clr (L m : Nat) : Nat := L &&& (63 - 2 ^ m)
/-- What of the set lies from t on. -/
def hiOf (L t : Nat) : Nat := L / 2 ^ t * 2 ^ t

theorem clr_fin : ∀ (L : Fin 64) (m : Fin 6), bits BinOp.andNot .u8 (L.val : Int) (2 ^ m.val % 256) = ((clr L.val m.val : Nat) : Int) ∧ clr L.val m.val < 64 ∧ ∀ x : Fin 6, (clr L.val m.val).testBit x.val = (L.val.testBit x.val && decide (x.val ≠ m.val)) := by decide +kernel
theorem add_fin : ∀ (L : Fin 64) (m : Fin 6), bits BinOp.or .u8 (L.val : Int) (2 ^ m.val % 256) = ((L.val ||| 2 ^ m.val : Nat) : Int) ∧ L.val ||| 2 ^ m.val < 64 ∧ ∀ x : Fin 6, (L.val ||| 2 ^ m.val).testBit x.val = (L.val.testBit x.val || decide (x.val = m.val)) := by decide +kernel
theorem low_fin : ∀ (L : Fin 64) (t : Fin 7), hiOf L.val t.val ≠ 0 → t.val ≤ Lib.trailingZeros8 (hiOf L.val t.val) ∧ Lib.trailingZeros8 (hiOf L.val t.val) < 6 ∧ L.val.testBit (Lib.trailingZeros8 (hiOf L.val t.val)) = true ∧
    (∀ x : Fin 6, t.val ≤ x.val → x.val < Lib.trailingZeros8 (hiOf L.val t.val) → L.val.testBit x.val = false) ∧
    bits BinOp.and .u8 (hiOf L.val t.val : Int) ((hiOf L.val t.val : Int) - 1) = ((hiOf L.val (Lib.trailingZeros8 (hiOf L.val t.val) + 1) : Nat) : Int) ∧ hiOf L.val (Lib.trailingZeros8 (hiOf L.val t.val) + 1) < hiOf L.val t.val := by decide +kernel
theorem end_fin : ∀ (L : Fin 64) (t : Fin 7), hiOf L.val t.val < 64 ∧ (hiOf L.val t.val = 0 → ∀ x : Fin 6, t.val ≤ x.val → L.val.testBit x.val = false) := by decide +kernel

/-- The lowest mode of what is left. -/
theorem low_of {L t : Nat} (hL : L < 64) (ht : t ≤ 6) (h : hiOf L t ≠ 0) : ∃ m, Lib.trailingZeros8 (hiOf L t) = m ∧ t ≤ m ∧ m < 6 ∧ L.testBit m = true ∧ (∀ x, x < 6 → t ≤ x → x < m → L.testBit x = false) ∧
    bits BinOp.and .u8 (hiOf L t : Int) ((hiOf L t : Int) - 1) = ((hiOf L (m + 1) : Nat) : Int) ∧ hiOf L (m + 1) < hiOf L t := by
  obtain ⟨a, b, c, d, e, g⟩ := low_fin ⟨L, hL⟩ ⟨t, by omega⟩ h
  exact ⟨_, rfl, a, b, c, fun x hx => d ⟨x, hx⟩, e, g⟩

theorem end_of {L t : Nat} (hL : L < 64) (ht : t ≤ 6) : hiOf L t < 64 ∧ (hiOf L t = 0 → ∀ x, x < 6 → t ≤ x → L.testBit x = false) := by
  obtain ⟨a, b⟩ := end_fin ⟨L, hL⟩ ⟨t, by omega⟩
  exact ⟨a, fun h x hx => b h ⟨x, hx⟩⟩

theorem clr_of {L m : Nat} (hL : L < 64) (hm : m < 6) : bits BinOp.andNot .u8 (L : Int) (2 ^ m % 256) = ((clr L m : Nat) : Int) ∧ clr L m < 64 ∧ ∀ x, x < 6 → (clr L m).testBit x = (L.testBit x && decide (x ≠ m)) := by
  obtain ⟨a, b, c⟩ := clr_fin ⟨L, hL⟩ ⟨m, hm⟩
  exact ⟨a, b, fun x hx => c ⟨x, hx⟩⟩

theorem add_of {L m : Nat} (hL : L < 64) (hm : m < 6) : bits BinOp.or .u8 (L : Int) (2 ^ m % 256) = ((L ||| 2 ^ m : Nat) : Int) ∧ L ||| 2 ^ m < 64 ∧ ∀ x, x < 6 → (L ||| 2 ^ m).testBit x = (L.testBit x || decide (x = m)) := by
  obtain ⟨a, b, c⟩ := add_fin ⟨L, hL⟩ ⟨m, hm⟩
  exact ⟨a, b, fun x hx => c ⟨x, hx⟩⟩
end Go.Proofs.Ybulkaqny

/-
  math/bits.Len64, TrailingZeros64, WALKED OVER THIS PROGRAM (after the library's Derived/Shelf/Strconv/Itoa0.lean and Derived/Shelf/Spec/TrailingZeros.lean).
-/
import Derived.Test.YbulkaqnyDoorRows
import Derived.WalkKit
import Derived.WalkSpells
import Derived.WalkLawsBesides
import Derived.Laws.Bits64b
import Derived.Lib.TrailingZeros
import Derived.Lib.BitFns
import Derived.Lib.ItoaNum
import Derived.Test.YbulkaqnyDoorShelf
import Derived.Shelf.Spec.TrailingZeros
namespace Go.Proofs.YbulkaqnyDoor
open Go.RowKit



theorem len64 (x : Int) (w : World) (h0 : 0 ≤ x) (h1 : x ≤ 18446744073709551615) :
    Calls Ybad.prog 12 #[.int .u64 x] w fun e w' => e = .returned (.int .i64 (Lib.bitLen x.toNat)) ∧ w = w' :=
  (Ybad.bits_Len64 x w h0 h1).mono (fun _ _ h => ⟨h.1, h.2.symm⟩)

set_option maxHeartbeats 1000000 in
theorem tz64_core (x k idx : Nat) (w : World) (hx0 : ((x : Int) == 0) = false)
    (key : IntKind.u64.wrap (bits BinOp.and IntKind.u64 (x : Int) (IntKind.u64.wrap (-(x : Int))) * 285870213051353865) / 288230376151711744 = (idx : Int))
    (hi : idx < 64) (hk : k < 64) (hcell : w.cell? ⟨0, idx, none⟩ = some (.int .u8 k)) :
    Calls Ybad.prog 13 #[.int .u64 x] w fun e w' => e = .returned (.int .i64 k) ∧ w = w' := by
  go_enter Ybad.func13, Ybad.ntmps13
  go_wp2_with (simp only [key])
  go_ret
  exact ⟨rfl, rfl⟩

/-- TrailingZeros64 at a number that is not nought, the table laid in its variable. -/
theorem tz64 (x : Nat) (hx : x < 18446744073709551616) (hx0 : x ≠ 0) (w : World) (hT : TabAt 0 Lib.deBruijn64tab w) :
    Calls Ybad.prog 13 #[.int .u64 x] w fun e w' => e = .returned (.int .i64 (Lib.ctz 64 x)) ∧ w = w' := by
  obtain ⟨hlow, hk⟩ := Lib.lowest_bit 64 x hx0 hx
  obtain ⟨hi, htab⟩ := Lib.deBruijn64_at _ hk
  refine tz64_core x _ _ w (by simpa using hx0) (tz64_key x _ hx hx0 hlow) hi hk ?_
  have := hT _ (by simpa [Lib.deBruijn64tab] using hi)
  rw [htab] at this
  exact this

/-- The highest bit of x. -/
theorem bitLen_bits (x : Nat) (h0 : x ≠ 0) (h : x < 18446744073709551616) : 1 ≤ Lib.bitLen x ∧ Lib.bitLen x ≤ 64 ∧ x.testBit (Lib.bitLen x - 1) = true ∧ ∀ j, x.testBit j = true → j ≤ Lib.bitLen x - 1 := by
  obtain ⟨h1, h2, h3⟩ := Lib.bitLenAux_bounds 64 x h h0
  have hle : Lib.bitLen x ≤ 64 := Lib.bitLen_le x 64 (by omega) h
  refine ⟨h1, hle, ?_, ?_⟩
  · have : Lib.bitLen x = Lib.bitLenAux 64 x := rfl
    rw [this]
    generalize Lib.bitLenAux 64 x = L at *
    obtain ⟨L, rfl⟩ : ∃ m, L = m + 1 := ⟨L - 1, by omega⟩
    simp only [Nat.add_sub_cancel] at *
    rw [Nat.testBit_eq_decide_div_mod_eq]
    have : x / 2 ^ L = 1 := by
      apply Nat.div_eq_of_lt_le
      · omega
      · rw [Nat.pow_succ] at h3; omega
    simp [this]
  · intro j hj
    have := Nat.ge_two_pow_of_testBit hj
    have h4 : 2 ^ j < 2 ^ Lib.bitLen x := Nat.lt_of_le_of_lt this h3
    have := (Nat.pow_lt_pow_iff_right (a := 2) (by omega)).1 h4
    omega

/-- The lowest bit of x. -/
theorem ctz_bits (x : Nat) (h0 : x ≠ 0) (h : x < 18446744073709551616) : Lib.ctz 64 x < 64 ∧ x.testBit (Lib.ctz 64 x) = true ∧ ∀ j, x.testBit j = true → Lib.ctz 64 x ≤ j := by
  obtain ⟨m, hm, hc⟩ := Lib.ctzFrom_spec 64 x (by omega) h
  have e : Lib.ctz 64 x = Lib.ctzFrom 64 x := by unfold Lib.ctz; rw [if_neg h0]
  rw [e]
  generalize Lib.ctzFrom 64 x = c at *
  refine ⟨hc, ?_, ?_⟩
  · rw [hm, Nat.testBit_two_pow_mul]
    simp
  · intro j hj
    rw [hm, Nat.testBit_two_pow_mul] at hj
    simp at hj
    exact hj.1
end Go.Proofs.YbulkaqnyDoor

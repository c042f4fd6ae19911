/-
  (*indexUnion).next.
-/
import Derived.Test.YbulkaqnyDoorWalkN
namespace Go.Proofs.YbulkaqnyDoor
open Go.RowKit

set_option maxHeartbeats 1000000 in
theorem unext_back_none (bu : Nat) (i : Int) (w : World) (h : i ≤ 0) :
    Calls Ybad.prog 10 #[.pointer (some ⟨bu, 0, none⟩), .int .i64 i, .bool true] w fun e w' => e = .returned (.int .i64 (-1)) ∧ w = w' := by
  go_enter Ybad.func10, Ybad.ntmps10
  go_wp2_with fail
  go_ret
  exact ⟨rfl, rfl⟩

/-- 'word & (^uint64(0) << s)'. -/
theorem mask_fwd (a s : Nat) (ha : a < 18446744073709551616) (hs : s < 64) :
    ∃ x : Nat, bits BinOp.and .u64 (a : Int) (IntKind.u64.wrap (18446744073709551615 * 2 ^ s)) = (x : Int) ∧ x < 18446744073709551616 ∧ ∀ j, x.testBit j = (a.testBit j && decide (s ≤ j)) := by
  have e : IntKind.u64.wrap (18446744073709551615 * 2 ^ s) = ((((2 ^ 64 - 1) * 2 ^ s) % 2 ^ 64 : Nat) : Int) := by
    rw [IntKind.wrap_u64, Int.natCast_emod, Int.natCast_mul, Int.natCast_pow]
    rfl
  have hlt : ((2 ^ 64 - 1) * 2 ^ s) % 2 ^ 64 < 18446744073709551616 := Nat.mod_lt _ (by decide)
  refine ⟨a &&& (((2 ^ 64 - 1) * 2 ^ s) % 2 ^ 64), by rw [e, bits_and_u64_nat _ _ ha hlt], Nat.and_lt_two_pow (n := 64) _ hlt, fun j => ?_⟩
  rw [Nat.testBit_and, Nat.testBit_mod_two_pow, Nat.testBit_mul_two_pow]
  rcases Nat.lt_or_ge j 64 with h | h
  · by_cases h2 : s ≤ j
    · have : (2 ^ 64 - 1).testBit (j - s) = true := by
        rw [Nat.testBit_two_pow_sub_one]
        simp
        omega
      simp [h, h2, this]
    · simp [h2]
  · have : a.testBit j = false := Nat.testBit_lt_two_pow (Nat.lt_of_lt_of_le ha (Nat.pow_le_pow_right (n := 2) (by omega) h))
    simp [this]

/-- 'word & (^uint64(0) >> (63 - s))'. -/
theorem mask_bwd (a s : Nat) (ha : a < 18446744073709551616) (hs : s < 64) :
    ∃ x : Nat, bits BinOp.and .u64 (a : Int) (18446744073709551615 / 2 ^ (63 - s)) = (x : Int) ∧ x < 18446744073709551616 ∧ ∀ j, x.testBit j = (a.testBit j && decide (j ≤ s)) := by
  have e : (18446744073709551615 / 2 ^ (63 - s) : Int) = (((2 ^ 64 - 1) / 2 ^ (63 - s) : Nat) : Int) := by
    rw [Int.natCast_ediv, Int.natCast_pow]
    rfl
  have hlt : (2 ^ 64 - 1) / 2 ^ (63 - s) < 18446744073709551616 := Nat.lt_of_le_of_lt (Nat.div_le_self _ _) (by decide)
  refine ⟨a &&& ((2 ^ 64 - 1) / 2 ^ (63 - s)), by rw [e, bits_and_u64_nat _ _ ha hlt], Nat.and_lt_two_pow (n := 64) _ hlt, fun j => ?_⟩
  rw [Nat.testBit_and, Nat.testBit_div_two_pow, Nat.testBit_two_pow_sub_one]
  congr 1
  apply decide_eq_decide.2
  omega

theorem orTo_zero (ff : Nat → Nat → Nat) (v : Nat) : ∀ m, (∀ j, ff j v = 0) → orTo ff v m = 0
  | 0, _ => rfl
  | m + 1, h => by simp [orTo, orTo_zero ff v m h, h m]

set_option maxHeartbeats 1000000 in
theorem unext_fwd {n : Nat} (hset : SetNext n) {w : World} {bu m : Nat} {P : Nat → Nat × Nat} {ff : Nat → Nat → Nat} (h : IsUnion n w bu m P ff) (hT : TabAt 0 Lib.deBruijn64tab w) (hz : ∀ j v, 4096 ≤ v → ff j v = 0) (i : Int) (w0 s : Nat) (hs : s < 64) (hi : i + 1 = ((64 * w0 + s : Nat) : Int)) (h1 : i ≤ 100000) :
    Calls Ybad.prog 10 #[.pointer (some ⟨bu, 0, none⟩), .int .i64 i, .bool false] w fun e w' => ∃ r : Int, e = .returned (.int .i64 r) ∧ IsNext (Bit (fun v => orTo ff v m)) i false r ∧ Below w.heap.size w w' := by
  have e1 : (i + 1) / 64 = (w0 : Int) := by omega
  have e2 : (i + 1) % 64 = (s : Int) := by omega
  have b1 : -1 ≤ i := by omega
  have b2 : (w0 : Int) ≤ 100000 := by omega
  have b3 : (s : Int) < 64 := by omega
  have HI : Hid (i + 1 = ((64 * w0 + s : Nat) : Int)) := hi
  clear hi
  have HU : ∀ q, Calls Ybad.prog 11 #[.pointer (some ⟨bu, 0, none⟩), .int .i64 (w0 : Int)] (w.drewN q) fun e w' => e = .returned (.int .u64 (orTo ff w0 m)) ∧ ∃ q', w' = (w.drewN q).drewN q' := fun q => by
    have := uword_any (h.move ((Kept.refl _ w).drewN q)) (w0 : Int) (by omega) (by omega)
    rw [Int.toNat_natCast] at this
    exact this
  obtain ⟨x, hx, hlt, hbit⟩ := mask_fwd (orTo ff w0 m) s (orTo_small ff w0 m (fun t ht => by obtain ⟨F, hs⟩ := h.set t ht; exact hs.base.small _)) hs
  have HX : Hid (bits BinOp.and .u64 (orTo ff w0 m : Int) (IntKind.u64.wrap (18446744073709551615 * 2 ^ s)) = (x : Int)) := hx
  have hpos : 0 < w.heap.size := by have := h.lt; omega
  clear hx
  go_enter Ybad.func10, Ybad.ntmps10
  go_wp2_with fail
  go_quiet ((go_at_call 11; exact Calls.quiet_of (HU _)))
  rw [HX.out]
  have hb := below_drewN w nq
  have hTq := tab_move hT hb hpos
  have hq := h.move (Kept.of_below hb)
  have hW : ∀ v, orTo ff v m < 18446744073709551616 := fun v => orTo_small ff v m (fun t ht => by obtain ⟨F, hs⟩ := h.set t ht; exact hs.base.small _)
  by_cases hx0 : x = 0
  · have R := fun r hr => next_later (W := fun v => orTo ff v m) (r := r) hs HI.out hbit hx0 hW hr
    subst hx0
    go_wp2_with fail
    refine (uwordNext_any hset hq hTq hz (w0 : Int) false (by omega) (by omega)).mono ?_
    rintro e w1 ⟨r, rfl, hr, hb1⟩
    obtain ⟨R1, R2⟩ := R r hr
    have hb2 := hb.trans hb1
    obtain ⟨r1, r2⟩ := next_bound (f := fun v => orTo ff v m) hr (fun v hv => orTo_zero ff v m (fun t => hz t v hv))
    rcases Int.lt_or_le r 0 with c1 | c1
    · have fin := R1 c1
      clear R1 R2 R hr
      go_wp2_with fail
      go_ret
      exact ⟨_, rfl, fin, hb2⟩
    · obtain ⟨hne, fin⟩ := R2 c1
      have hu := uword_any (h.move (Kept.of_below hb2)) r c1 (by omega)
      obtain ⟨hc, _, _⟩ := ctz_bits _ hne (hW _)
      have HC := fun q => tz64 (orTo ff r.toNat m) (hW _) hne (w1.drewN q) (tab_move hT (hb2.trans ⟨rfl, rfl, rfl, Nat.le_refl _, fun _ _ => rfl⟩) hpos)
      generalize Lib.ctz 64 (orTo ff r.toNat m) = c at fin hc HC
      have hne' : ((orTo ff r.toNat m : Int) == 0) = false := by simp; exact hne
      clear R1 R2 R hr hq hTq hbit hne
      go_wp2_with fail
      refine hu.mono ?_
      rintro e w2 ⟨rfl, q, hw2⟩
      subst w2
      go_wp2_with fail
      refine (HC q).mono ?_
      rintro e w' ⟨rfl, rfl⟩
      have hc' : (c : Int) < 64 := by omega
      go_wp2_with fail
      go_ret
      exact ⟨_, rfl, fin, hb2.trans ⟨rfl, rfl, rfl, Nat.le_refl _, fun _ _ => rfl⟩⟩
  · have fin := next_here (W := fun v => orTo ff v m) hs HI.out hbit hlt hx0
    have hx1 : ((x : Int) == 0) = false := by simp; omega
    obtain ⟨hc, _, _⟩ := ctz_bits x hx0 hlt
    have HC := tz64 x hlt hx0 _ hTq
    generalize Lib.ctz 64 x = c at fin hc HC
    clear hTq hq hbit
    go_wp2_with fail
    refine HC.mono ?_
    rintro e w' ⟨rfl, rfl⟩
    have hc' : (c : Int) < 64 := by omega
    go_wp2_with fail
    go_ret
    refine ⟨_, rfl, ?_, hb⟩
    exact fin
set_option maxHeartbeats 1000000 in
theorem unext_bwd {n : Nat} (hset : SetNext n) {w : World} {bu m : Nat} {P : Nat → Nat × Nat} {ff : Nat → Nat → Nat} (h : IsUnion n w bu m P ff) (hT : TabAt 0 Lib.deBruijn64tab w) (hz : ∀ j v, 4096 ≤ v → ff j v = 0) (i : Int) (w0 s : Nat) (hs : s < 64) (hi : i = ((64 * w0 + s : Nat) : Int) + 1) (h1 : i ≤ 100000) :
    Calls Ybad.prog 10 #[.pointer (some ⟨bu, 0, none⟩), .int .i64 i, .bool true] w fun e w' => ∃ r : Int, e = .returned (.int .i64 r) ∧ IsNext (Bit (fun v => orTo ff v m)) i true r ∧ Below w.heap.size w w' := by
  have e1 : (i - 1) / 64 = (w0 : Int) := by omega
  have e2 : (i - 1) % 64 = (s : Int) := by omega
  have b1 : 1 ≤ i := by omega
  have b2 : (w0 : Int) ≤ 100000 := by omega
  have b3 : (s : Int) < 64 := by omega
  have HI : Hid (i = ((64 * w0 + s : Nat) : Int) + 1) := hi
  clear hi
  have HU : ∀ q, Calls Ybad.prog 11 #[.pointer (some ⟨bu, 0, none⟩), .int .i64 (w0 : Int)] (w.drewN q) fun e w' => e = .returned (.int .u64 (orTo ff w0 m)) ∧ ∃ q', w' = (w.drewN q).drewN q' := fun q => by
    have := uword_any (h.move ((Kept.refl _ w).drewN q)) (w0 : Int) (by omega) (by omega)
    rw [Int.toNat_natCast] at this
    exact this
  obtain ⟨x, hx, hlt, hbit⟩ := mask_bwd (orTo ff w0 m) s (orTo_small ff w0 m (fun t ht => by obtain ⟨F, hs⟩ := h.set t ht; exact hs.base.small _)) hs
  have HX : Hid (bits BinOp.and .u64 (orTo ff w0 m : Int) (18446744073709551615 / 2 ^ (63 - s)) = (x : Int)) := hx
  have hpos : 0 < w.heap.size := by have := h.lt; omega
  clear hx
  go_enter Ybad.func10, Ybad.ntmps10
  go_wp2_with fail
  go_quiet ((go_at_call 11; exact Calls.quiet_of (HU _)))
  rw [HX.out]
  have hb := below_drewN w nq
  have hTq := tab_move hT hb hpos
  have hq := h.move (Kept.of_below hb)
  have hW : ∀ v, orTo ff v m < 18446744073709551616 := fun v => orTo_small ff v m (fun t ht => by obtain ⟨F, hs⟩ := h.set t ht; exact hs.base.small _)
  by_cases hx0 : x = 0
  · have R := fun r hr => prev_earlier (W := fun v => orTo ff v m) (r := r) hs HI.out hbit hx0 hW hr
    subst hx0
    go_wp2_with fail
    refine (uwordNext_any hset hq hTq hz (w0 : Int) true (by omega) (by omega)).mono ?_
    rintro e w1 ⟨r, rfl, hr, hb1⟩
    obtain ⟨R1, R2⟩ := R r hr
    have hb2 := hb.trans hb1
    obtain ⟨r1, r2⟩ := next_bound (f := fun v => orTo ff v m) hr (fun v hv => orTo_zero ff v m (fun t => hz t v hv))
    rcases Int.lt_or_le r 0 with c1 | c1
    · have fin := R1 c1
      clear R1 R2 R hr
      go_wp2_with fail
      go_ret
      exact ⟨_, rfl, fin, hb2⟩
    · obtain ⟨hne, fin⟩ := R2 c1
      have hu := uword_any (h.move (Kept.of_below hb2)) r c1 (by omega)
      obtain ⟨hc0, hc, _, _⟩ := bitLen_bits _ hne (hW _)
      have HC := fun q => len64 (orTo ff r.toNat m : Int) (w1.drewN q) (by omega) (by have := hW r.toNat; omega)
      simp only [Int.toNat_natCast] at HC
      generalize Lib.bitLen (orTo ff r.toNat m) = c at fin hc0 hc HC
      have hne' : ((orTo ff r.toNat m : Int) == 0) = false := by simp; exact hne
      clear R1 R2 R hr hq hTq hbit hne
      go_wp2_with fail
      refine hu.mono ?_
      rintro e w2 ⟨rfl, q, hw2⟩
      subst w2
      go_wp2_with fail
      refine (HC q).mono ?_
      rintro e w' ⟨rfl, rfl⟩
      have hc' : (c : Int) ≤ 64 := by omega
      have hc1 : 1 ≤ (c : Int) := by omega
      go_wp2_with fail
      go_ret
      exact ⟨_, rfl, fin, hb2.trans ⟨rfl, rfl, rfl, Nat.le_refl _, fun _ _ => rfl⟩⟩
  · have fin := prev_here (W := fun v => orTo ff v m) hs HI.out hbit hlt hx0
    have hx1 : ((x : Int) == 0) = false := by simp; omega
    obtain ⟨hc0, hc, _, _⟩ := bitLen_bits x hx0 hlt
    have HC := len64 (x : Int) (w.drewN nq) (by omega) (by omega)
    rw [Int.toNat_natCast] at HC
    generalize Lib.bitLen x = c at fin hc0 hc HC
    clear hTq hq hbit
    go_wp2_with fail
    refine HC.mono ?_
    rintro e w' ⟨rfl, rfl⟩
    have hc' : (c : Int) ≤ 64 := by omega
    have hc1 : 1 ≤ (c : Int) := by omega
    go_wp2_with fail
    go_ret
    refine ⟨_, rfl, ?_, hb⟩
    exact fin
end Go.Proofs.YbulkaqnyDoor

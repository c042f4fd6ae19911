/-
  (*indexSet).word, (*indexUnion).word, (*indexUnion).add.
-/
import Derived.Test.YbulkaqnyDoorAdd
import Derived.Deep.QuietTactic
import Derived.BigQuiet
namespace Go.Proofs.YbulkaqnyDoor
open Go.RowKit

set_option maxHeartbeats 400000 in
theorem word_zero (b o x : Nat) (w : World) (hl : w.cell? ⟨b, o, none⟩ = some (.int .u64 x)) :
    Calls Ybad.prog 14 #[.pointer (some ⟨b, o, none⟩), .int .i64 0] w fun e w' => e = .returned (.int .u64 x) ∧ w = w' := by
  go_enter Ybad.func14, Ybad.ntmps14
  go_wp2
  go_ret
  exact ⟨rfl, rfl⟩

set_option maxHeartbeats 400000 in
theorem word_leaf (b o : Nat) (k : Int) (hk : 1 ≤ k) (w : World) (hm : w.cell? ⟨b, o + 1, none⟩ = some (.pointer none)) :
    Calls Ybad.prog 14 #[.pointer (some ⟨b, o, none⟩), .int .i64 k] w fun e w' => e = .returned (.int .u64 0) ∧ w = w' := by
  go_enter Ybad.func14, Ybad.ntmps14
  go_wp2
  go_ret
  exact ⟨rfl, rfl⟩

set_option maxHeartbeats 400000 in
theorem word_in (b o bm bh len cap x k : Nat) (hk : 1 ≤ k) (hl : k ≤ len) (hb : k ≤ 1000000) (w : World) (hm : w.cell? ⟨b, o + 1, none⟩ = some (.pointer (some ⟨bm, 0, none⟩)))
    (hh : w.cell? ⟨bm, 0, none⟩ = some (.slice (some ⟨bh, 0, none⟩) len cap)) (hx : w.cell? ⟨bh, k - 1, none⟩ = some (.int .u64 x)) :
    Calls Ybad.prog 14 #[.pointer (some ⟨b, o, none⟩), .int .i64 k] w fun e w' => e = .returned (.int .u64 x) ∧ w = w' := by
  go_enter Ybad.func14, Ybad.ntmps14
  go_wp2
  go_ret
  exact ⟨rfl, rfl⟩

set_option maxHeartbeats 400000 in
theorem word_out (b o bm bh len cap k : Nat) (hk : 1 ≤ k) (hl : len < k) (hb : k ≤ 1000000) (w : World) (hm : w.cell? ⟨b, o + 1, none⟩ = some (.pointer (some ⟨bm, 0, none⟩)))
    (hh : w.cell? ⟨bm, 0, none⟩ = some (.slice (some ⟨bh, 0, none⟩) len cap)) :
    Calls Ybad.prog 14 #[.pointer (some ⟨b, o, none⟩), .int .i64 k] w fun e w' => e = .returned (.int .u64 0) ∧ w = w' := by
  go_enter Ybad.func14, Ybad.ntmps14
  go_wp2
  go_ret
  exact ⟨rfl, rfl⟩

/-- (*indexSet).word. -/
theorem word_any {n : Nat} {w : World} {F : List Nat} {b o : Nat} {f : Nat → Nat} (h : IsSet n w F b o f) (k : Int) (h0 : 0 ≤ k) (h1 : k ≤ 1000000) :
    Calls Ybad.prog 14 #[.pointer (some ⟨b, o, none⟩), .int .i64 k] w fun e w' => e = .returned (.int .u64 (f k.toNat)) ∧ w = w' := by
  obtain ⟨k, rfl⟩ := Int.eq_ofNat_of_zero_le h0
  rw [Int.toNat_natCast]
  rcases Nat.eq_zero_or_pos k with rfl | hk
  · exact word_zero b o _ w h.base.low
  · have leaf : Leaf w F b o f → Calls Ybad.prog 14 #[.pointer (some ⟨b, o, none⟩), .int .i64 k] w fun e w' => e = .returned (.int .u64 (f k)) ∧ w = w' := fun h => by
      rw [h.zero k hk]
      exact word_leaf b o k (by omega) w h.more
    cases n with
    | zero => exact leaf h
    | succ n =>
      rcases h with h | ⟨bm, bh, len, cap, cs, F', g, h, hb⟩
      · exact leaf h
      · have hlc := h.lenc
        rcases Nat.lt_or_ge len k with hl | hl
        · rw [h.zero k hl]
          exact word_out b o bm bh len cap k hk hl (by omega) w h.more h.high
        · have hx := h.rw'.row (k - 1) (by omega)
          rw [h.is (k - 1) (by omega), show k - 1 + 1 = k by omega] at hx
          exact word_in b o bm bh len cap _ k hk hl (by omega) w h.more h.high hx

theorem Kept.drewN {T : Nat → Nat → Prop} {a w : World} (h : Kept T a w) (q : Nat) : Kept T a (w.drewN q) :=
  ⟨h.os, h.tape, h.output, h.size, h.block, h.cell, h.frozen⟩

/-- A union of m sets in block bu. -/
structure IsUnion (n : Nat) (w : World) (bu m : Nat) (P : Nat → Nat × Nat) (ff : Nat → Nat → Nat) : Prop where
  le : m ≤ 5
  cnt : w.cell? ⟨bu, 5, none⟩ = some (.int .i64 m)
  ptr : ∀ j, j < m → w.cell? ⟨bu, j, none⟩ = some (.pointer (some ⟨(P j).1, (P j).2, none⟩))
  set : ∀ j, j < m → ∃ F, IsSet n w F (P j).1 (P j).2 (ff j)
  lt : bu < w.heap.size

theorem IsUnion.move {n : Nat} {w w' : World} {bu m : Nat} {P : Nat → Nat × Nat} {ff : Nat → Nat → Nat} (h : IsUnion n w bu m P ff) (hk : Kept (fun _ _ => False) w w') : IsUnion n w' bu m P ff :=
  ⟨h.le, (hk.cell _ _ h.lt (fun x => x)).trans h.cnt, fun j hj => (hk.cell _ _ h.lt (fun x => x)).trans (h.ptr j hj), fun j hj => by
    obtain ⟨F, hs⟩ := h.set j hj
    exact ⟨F, hs.move hk (fun _ _ _ x => x)⟩, Nat.lt_of_lt_of_le h.lt hk.size⟩

/-- The words of the first j sets laid together. -/
def orTo (ff : Nat → Nat → Nat) (k : Nat) : Nat → Nat
  | 0 => 0
  | j + 1 => orTo ff k j ||| ff j k

theorem orTo_small (ff : Nat → Nat → Nat) (k : Nat) : ∀ m, (∀ j, j < m → ff j k < 18446744073709551616) → orTo ff k m < 18446744073709551616
  | 0, _ => by simp [orTo]
  | m + 1, h => Nat.or_lt_two_pow (n := 64) (orTo_small ff k m (fun j hj => h j (by omega))) (h m (by omega))

set_option maxHeartbeats 1000000 in
theorem uword_any {n : Nat} {w : World} {bu m : Nat} {P : Nat → Nat × Nat} {ff : Nat → Nat → Nat} (h : IsUnion n w bu m P ff) (k : Int) (h0 : 0 ≤ k) (h1 : k ≤ 1000000) :
    Calls Ybad.prog 11 #[.pointer (some ⟨bu, 0, none⟩), .int .i64 k] w fun e w' => e = .returned (.int .u64 (orTo ff k.toNat m)) ∧ ∃ q, w' = w.drewN q := by
  have hle := h.le
  have hc := h.cnt
  have hm1 : (0 : Int) ≤ (m : Int) := by omega
  have hm2 : (m : Int) ≤ 5 := by omega
  go_enter Ybad.func11, Ybad.ntmps11
  go_wp2_with fail
  go_quiet (fail)
  go_wp2_with fail
  obtain ⟨w2, hw2⟩ : ∃ w2, w2 = w.drewN nq := ⟨_, rfl⟩
  have h2 : IsUnion n w2 bu m P ff := hw2 ▸ h.move ((Kept.refl _ w).drewN nq)
  rw [← hw2]
  have HW : Hid (w2 = w.drewN nq) := hw2
  clear hw2 hc h
  go_loop [5, 17] (fun a i => ∃ j : Nat, j ≤ m ∧ i = .int .i64 j ∧ a = .int .u64 (orTo ff k.toNat j)) (fun _ i => m - (intOf i).toNat)
  case atStart => exact ⟨0, Nat.zero_le _, rfl, rfl⟩
  case round =>
    obtain ⟨j, hj, rfl, rfl⟩ := hrel
    by_cases hlt : j < m
    · have hp := h2.ptr j hlt
      obtain ⟨F, hs⟩ := h2.set j hlt
      have hos := orTo_small ff k.toNat j (fun t ht => by obtain ⟨F, hs⟩ := h2.set t (by omega); exact hs.base.small _)
      have hb := bits_or_u64_nat (orTo ff k.toNat j) (ff j k.toNat) hos (hs.base.small _)
      have HB : Hid (bits BinOp.or .u64 (orTo ff k.toNat j : Int) (ff j k.toNat : Int) = ((orTo ff k.toNat (j + 1) : Nat) : Int)) := hb
      clear hb
      go_wp2_with (go_at_call 14; refine (word_any hs _ h0 h1).mono ?_; rintro e w' ⟨rfl, rfl⟩)
      go_round
      case rel => exact ⟨j + 1, by omega, by go_num, by rw [HB.out]⟩
      case measure => simp [intOf]; omega
    · obtain rfl : j = m := by omega
      go_wp2_with fail
      go_ret
      exact ⟨rfl, nq, HW.out⟩

set_option maxHeartbeats 400000 in
/-- (*indexUnion).add. -/
theorem uadd_any (bu m b o : Nat) (v : Value) (w : World) (hm : m < 5) (hc : w.cell? ⟨bu, 5, none⟩ = some (.int .i64 m)) (hf5 : w.frozen? ⟨bu, 5, none⟩ = false) (hcm : w.cell? ⟨bu, m, none⟩ = some v) (hfm : w.frozen? ⟨bu, m, none⟩ = false) :
    Calls Ybad.prog 5 #[.pointer (some ⟨bu, 0, none⟩), .pointer (some ⟨b, o, none⟩)] w fun e w' => e = .returned (.tuple #[]) ∧
      w' = ((w.setCell ⟨bu, m, none⟩ (.pointer (some ⟨b, o, none⟩))).setCell ⟨bu, 5, none⟩ (.int .i64 ((m : Int) + 1))).drew := by
  have hm1 : (0 : Int) ≤ (m : Int) := by omega
  have hm2 : (m : Int) < 5 := by omega
  go_enter Ybad.func5, Ybad.ntmps5
  go_wp2_with fail
  go_region
  go_wp2_with fail
  go_end0
  exact ⟨rfl, rfl⟩
end Go.Proofs.YbulkaqnyDoor

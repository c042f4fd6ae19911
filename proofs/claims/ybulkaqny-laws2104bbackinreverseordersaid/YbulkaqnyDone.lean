/-
  zzs2104bdone; a step of the walk, plainly.
-/
import Derived.Test.YbulkaqnyTake
import Derived.Test.YbulkaqnyLane
namespace Go.Proofs.Ybulkaqny
open Go.RowKit

set_option maxHeartbeats 1000000 in
theorem done_any (bw : Nat) (w : World) (hl : w.cell? ⟨bw, 7, none⟩ = some (.int .u8 0)) (hc : ∀ m, m < 6 → w.cell? ⟨bw, 1 + m, none⟩ = some (.pointer none)) :
    Calls Yba.prog 7 #[.pointer (some ⟨bw, 0, none⟩)] w fun e w' => e = .returned (.bool true) ∧ w = w' := by
  go_enter Yba.func7, Yba.ntmps7
  go_wp2_with fail
  go_loop [9] (fun i => ∃ j : Nat, j ≤ 6 ∧ i = .int .i64 j) (fun i => 6 - (intOf i).toNat)
  case atStart => exact ⟨0, by omega, rfl⟩
  case round =>
    obtain ⟨j, hj, rfl⟩ := hrel
    by_cases hlt : j < 6
    · have hcj := hc j hlt
      have h1 : (0 : Int) ≤ (j : Int) := by omega
      have h2 : (j : Int) < 6 := by omega
      go_wp2_with fail
      go_round
      case rel => exact ⟨j + 1, by omega, by go_num⟩
      case measure => simp [intOf]; omega
    · obtain rfl : j = 6 := by omega
      go_wp2_with fail
      go_ret
      exact ⟨rfl, rfl⟩

/-- Forward: the next request is taken. -/
theorem best_fwd {md : Nat → Nat} {n k f : Nat} (hmd : ∀ i, 1 ≤ md i ∧ md i ≤ 5) (hk : k < n) (h : Best false (fun m => nxt md m k n) 6 (some f)) : f = k := by
  obtain ⟨⟨m, _, hm⟩, hall⟩ := h
  have h1 := (nxt_some hm).1
  have h2 := hall (md k) (by have := hmd k; omega) k (nxt_here hk)
  simp at h2
  omega

theorem past_fwd {md : Nat → Nat} {n k : Nat} : past md (fun i => nxt md (md i) (i + 1) n) (fun m => nxt md m k n) k = fun m => nxt md m (k + 1) n := by
  funext m
  unfold past
  by_cases e : m = md k
  · rw [if_pos e, e]
  · rw [if_neg e]
    exact nxt_step (fun x => e x.symm)

theorem none_fwd {md : Nat → Nat} {n m : Nat} : nxt md m n n = none := nxt_eq_none (fun i a b => by omega)

theorem some_fwd {md : Nat → Nat} {n k : Nat} (hmd : ∀ i, 1 ≤ md i ∧ md i ≤ 5) (hk : k < n) : ¬ Best false (fun m => nxt md m k n) 6 none := fun h => by
  have h2 : nxt md (md k) k n = none := h (md k) (by have := hmd k; omega)
  rw [nxt_here hk] at h2
  cases h2

theorem best_bwd {md : Nat → Nat} {k f : Nat} (hmd : ∀ i, 1 ≤ md i ∧ md i ≤ 5) (h : Best true (fun m => prv md m (k + 1)) 6 (some f)) : f = k := by
  obtain ⟨⟨m, _, hm⟩, hall⟩ := h
  have h1 := (prv_some hm).1
  have h2 := hall (md k) (by have := hmd k; omega) k prv_here
  simp at h2
  omega

theorem past_bwd {md : Nat → Nat} {k : Nat} : past md (fun i => prv md (md i) i) (fun m => prv md m (k + 1)) k = fun m => prv md m k := by
  funext m
  unfold past
  by_cases e : m = md k
  · rw [if_pos e, e]
  · rw [if_neg e]
    exact prv_step (fun x => e x.symm)

theorem some_bwd {md : Nat → Nat} {k : Nat} (hmd : ∀ i, 1 ≤ md i ∧ md i ≤ 5) : ¬ Best true (fun m => prv md m (k + 1)) 6 none := fun h => by
  have h2 : prv md (md k) (k + 1) = none := h (md k) (by have := hmd k; omega)
  rw [prv_here] at h2
  cases h2

/-- No front, no lane left. -/
theorem Walk.nothing {w : World} {bw bl br n : Nat} {md : Nat → Nat} {back : Bool} {lk A : Nat → Option Nat} {L : Nat} (h : Walk w bw bl br n md back lk A L) (hA : ∀ m, A m = none) : L = 0 := by
  apply Nat.eq_of_testBit_eq
  intro j
  rw [Nat.zero_testBit]
  rcases Nat.lt_or_ge j 6 with c | c
  · rw [h.bit j c, hA]; rfl
  · exact Nat.testBit_lt_two_pow (Nat.lt_of_lt_of_le h.lt (Nat.pow_le_pow_right (n := 2) (by omega) c))
end Go.Proofs.Ybulkaqny

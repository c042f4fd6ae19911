/-
  LawS2104BForwardInArrivalOrder, walked.
-/
import Derived.Test.YbulkaqnyBuild0
import Derived.Test.YbulkaqnyDone
import Derived.Deep.RegionHeld3
import Derived.LaidEqlPtr
namespace Go.Proofs.Ybulkaqny
open Go.RowKit

set_option maxHeartbeats 400000 in
theorem fwd_long (a : Option Addr) (n cap : Nat) (w : World) (h : 1024 < n) (hn : n ≤ 9223372036854775807) :
    Calls Yba.prog 3 #[.slice a n cap] w fun e w' => e = .returned (.bool true) ∧ Below w.heap.size w w' := by
  go_enter Yba.func3, Yba.ntmps3
  go_wp2_with fail
  go_ret
  exact ⟨rfl, Below.refl _ _⟩

/-- A pointer is itself. -/
theorem neq_same (W : World) (a : Addr) : (binOp .neq 27 (.pointer (some a)) (.pointer (some a))).run Yba.prog W = .ok (.bool false) W := by
  obtain ⟨i0, hi0, _⟩ := info_parts info37
  have h : ∀ d : Nat, (Op.equalIn (d + 1) 27 (.pointer (some a)) (.pointer (some a))).run Yba.prog W = .ok true W := fun d => by
    simp [Op.equalIn, run_underlying Yba.underlying27, sizeOf, typeInfo, hi0, run_sameAddr_same]
  simp only [binOp]
  simp [Op.equal, Op.maxDepth, h 9999]

set_option maxHeartbeats 1000000 in
theorem fwd_walk (a : Option Addr) (n cap : Nat) (md : Nat → Nat) (w : World) (hn : n ≤ 1024) (hr : ∀ i, 1 ≤ md i ∧ md i ≤ 5)
    (HB : Calls Yba.prog 5 #[.slice a n cap, .bool false] w fun e w' => e = .returned (.tuple #[.pointer (some ⟨w.heap.size + 1 + 1, 0, none⟩), .slice (some ⟨w.heap.size, 0, none⟩) n n]) ∧
      ∃ L, Walk w' (w.heap.size + 1 + 1) (w.heap.size + 1) w.heap.size n md false (fun i => nxt md (md i) (i + 1) n) (fun m => nxt md m 0 n) L ∧ Below w.heap.size w w') :
    Calls Yba.prog 3 #[.slice a n cap] w fun e w' => e = .returned (.bool true) ∧ Below w.heap.size w w' := by
  go_enter Yba.func3, Yba.ntmps3
  go_wp2_with fail
  refine HB.mono ?_
  rintro e w1 ⟨rfl, L1, hw1, hbel1⟩
  clear HB
  go_wp2_with fail
  go_loopw [6] (fun x wr => ∃ (k L : Nat), k ≤ n ∧ x = .int .i64 k ∧ Walk wr (w.heap.size + 1 + 1) (w.heap.size + 1) w.heap.size n md false (fun i => nxt md (md i) (i + 1) n) (fun m => nxt md m k n) L ∧ Below w.heap.size w wr) (fun x _ => n - (intOf x).toNat)
  case atStart => exact ⟨0, L1, Nat.zero_le _, rfl, hw1, hbel1⟩
  case round =>
    obtain ⟨k, L, hk, rfl, hw, hbel⟩ := hrel
    by_cases hlt : k < n
    · have HT : ∀ W, (∃ q, W = wr.drewN q) → Calls Yba.prog 6 #[.pointer (some ⟨w.heap.size + 1 + 1, 0, none⟩)] W fun e w' => e = .returned (.pointer (some ⟨w.heap.size, k * 13, none⟩)) ∧
          Hid (∃ L', Walk w' (w.heap.size + 1 + 1) (w.heap.size + 1) w.heap.size n md false (fun i => nxt md (md i) (i + 1) n) (fun m => nxt md m (k + 1) n) L' ∧ Below w.heap.size w w') := by
        rintro W ⟨q, rfl⟩
        refine (take_fwd (hw.drewN q)).mono ?_
        rintro e w' (⟨rfl, hb', _⟩ | ⟨f, rfl, hb', hw', hK⟩)
        · exact absurd hb' (some_fwd hr hlt)
        · obtain rfl := best_fwd hr hlt hb'
          refine ⟨rfl, _, past_fwd ▸ hw', ?_⟩
          have hK0 : Kept (fun x _ => x = w.heap.size + 1 + 1) wr w' := ((Kept.refl _ wr).drewN q).trans hK
          exact hbel.trans (hK0.below (fun x o hx ht => by omega) hbel.size)
      have k1 : (0 : Int) ≤ (k : Int) := by omega
      have k2 : (k : Int) < (n : Int) := by omega
      clear hw hbel hw1 hbel1
      have hnq := neq_same
      go_wp2_with fail
      go_region_held3 (fun _ => True) (trivial) (first | (go_at_call 6; refine (HT _ ⟨1, rfl⟩).mono ?_; rintro e w3 ⟨rfl, hw3⟩))
      obtain ⟨L', hw', hbel'⟩ := hw3.out
      clear hw3 HT hnq
      go_wp2_with fail
      go_roundw
      case rel => exact ⟨k + 1, L', by omega, by go_num, hw', hbel'⟩
      case measure => simp [intOf]; omega
    · obtain rfl : k = n := by omega
      have hL := hw.nothing (fun m => none_fwd)
      subst hL
      have HT : ∀ q, Calls Yba.prog 6 #[.pointer (some ⟨w.heap.size + 1 + 1, 0, none⟩)] (wr.drewN q) fun e w' => e = .returned (.pointer none) ∧ ∃ q', w' = wr.drewN q' := fun q => by
        refine (take_fwd (hw.drewN q)).mono ?_
        rintro e w' (⟨rfl, hb', q', rfl⟩ | ⟨f, rfl, hb', hw', hK⟩)
        · exact ⟨rfl, _, World.drewN_drewN _ _ _⟩
        · obtain ⟨⟨m, _, hm⟩, _⟩ := hb'
          have hm2 : nxt md m k k = some f := hm
          rw [none_fwd] at hm2
          cases hm2
      have HD : ∀ q, Calls Yba.prog 7 #[.pointer (some ⟨w.heap.size + 1 + 1, 0, none⟩)] (wr.drewN q) fun e w' => e = .returned (.bool true) ∧ wr.drewN q = w' := fun q =>
        done_any _ _ hw.left (fun m hm => by have := hw.fronts m hm; rw [none_fwd] at this; exact this)
      have HT0 := HT 0
      rw [World.drewN_zero] at HT0
      clear hw hw1 hbel1
      go_wp2_with fail
      refine HT0.mono ?_
      rintro e w3 ⟨rfl, q3, hw3⟩
      subst w3
      go_wp2_with fail
      refine (HD q3).mono ?_
      rintro e w4 ⟨rfl, hw4⟩
      subst w4
      go_wp2_with fail
      refine (HT q3).mono ?_
      rintro e w5 ⟨rfl, q5, hw5⟩
      subst w5
      go_wp2_with fail
      go_ret
      exact ⟨rfl, hbel.trans ⟨rfl, rfl, rfl, Nat.le_refl _, fun _ _ => rfl⟩⟩
end Go.Proofs.Ybulkaqny

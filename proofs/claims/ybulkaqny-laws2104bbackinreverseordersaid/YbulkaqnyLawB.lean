/-
  LawS2104BBackInReverseOrder, walked.
-/
import Derived.Test.YbulkaqnyLawF
import Derived.Test.YbulkaqnyTakeB
namespace Go.Proofs.Ybulkaqny
open Go.RowKit

set_option maxHeartbeats 400000 in
theorem bwd_long (a : Option Addr) (n cap : Nat) (w : World) (h : 1024 < n) (hn : n ≤ 9223372036854775807) :
    Calls Yba.prog 4 #[.slice a n cap] w fun e w' => e = .returned (.bool true) ∧ Below w.heap.size w w' := by
  go_enter Yba.func4, Yba.ntmps4
  go_wp2_with fail
  go_ret
  exact ⟨rfl, Below.refl _ _⟩

set_option maxHeartbeats 1000000 in
theorem bwd_walk (a : Option Addr) (n cap : Nat) (md : Nat → Nat) (w : World) (hn : n ≤ 1024) (hr : ∀ i, 1 ≤ md i ∧ md i ≤ 5)
    (HB : Calls Yba.prog 5 #[.slice a n cap, .bool true] w fun e w' => e = .returned (.tuple #[.pointer (some ⟨w.heap.size + 1 + 1, 0, none⟩), .slice (some ⟨w.heap.size, 0, none⟩) n n]) ∧
      ∃ L, Walk w' (w.heap.size + 1 + 1) (w.heap.size + 1) w.heap.size n md true (fun i => prv md (md i) i) (fun m => prv md m n) L ∧ Below w.heap.size w w') :
    Calls Yba.prog 4 #[.slice a n cap] w fun e w' => e = .returned (.bool true) ∧ Below w.heap.size w w' := by
  go_enter Yba.func4, Yba.ntmps4
  go_wp2_with fail
  refine HB.mono ?_
  rintro e w1 ⟨rfl, L1, hw1, hbel1⟩
  clear HB
  go_wp2_with fail
  go_loopw [6] (fun x wr => ∃ (k L : Nat), k ≤ n ∧ x = .int .i64 k ∧ Walk wr (w.heap.size + 1 + 1) (w.heap.size + 1) w.heap.size n md true (fun i => prv md (md i) i) (fun m => prv md m (n - k)) L ∧ Below w.heap.size w wr) (fun x _ => n - (intOf x).toNat)
  case atStart => exact ⟨0, L1, Nat.zero_le _, rfl, hw1, hbel1⟩
  case round =>
    obtain ⟨k, L, hk, rfl, hw, hbel⟩ := hrel
    by_cases hlt : k < n
    · have HT : ∀ W, (∃ q, W = wr.drewN q) → Calls Yba.prog 6 #[.pointer (some ⟨w.heap.size + 1 + 1, 0, none⟩)] W fun e w' => e = .returned (.pointer (some ⟨w.heap.size, (n - 1 - k) * 13, none⟩)) ∧
          Hid (∃ L', Walk w' (w.heap.size + 1 + 1) (w.heap.size + 1) w.heap.size n md true (fun i => prv md (md i) i) (fun m => prv md m (n - (k + 1))) L' ∧ Below w.heap.size w w') := by
        rintro W ⟨q, rfl⟩
        refine (take_bwd (hw.drewN q)).mono ?_
        rintro e w' (⟨rfl, hb', _⟩ | ⟨f, rfl, hb', hw', hK⟩)
        · rw [show n - k = n - 1 - k + 1 by omega] at hb'
          exact absurd hb' (some_bwd hr)
        · rw [show n - k = n - 1 - k + 1 by omega] at hb' hw'
          obtain rfl := best_bwd hr hb'
          rw [past_bwd] at hw'
          refine ⟨rfl, _, by rw [show n - (k + 1) = n - 1 - k by omega]; exact hw', ?_⟩
          have hK0 : Kept (fun x _ => x = w.heap.size + 1 + 1) wr w' := ((Kept.refl _ wr).drewN q).trans hK
          exact hbel.trans (hK0.below (fun x o hx ht => by omega) hbel.size)
      obtain ⟨d, hd⟩ : ∃ d, d = n - 1 - k := ⟨_, rfl⟩
      rw [← hd] at HT
      have k1 : IntKind.i64.wrap ((n : Int) - 1) = (n : Int) - 1 := by rw [IntKind.wrap_i64]; omega
      have k2 : IntKind.i64.wrap ((n : Int) - 1 - (k : Int)) = (d : Int) := by rw [IntKind.wrap_i64]; omega
      have k3 : (0 : Int) ≤ (d : Int) := by omega
      have k4 : (d : Int) < (n : Int) := by omega
      clear hd
      clear hw hbel hw1 hbel1
      have hnq := neq_same
      go_wp2_with fail
      go_region_held3 (fun _ => True) (trivial) (first | (go_at_call 6; refine (HT _ ⟨1, rfl⟩).mono ?_; rintro e w3 ⟨rfl, hw3⟩))
      obtain ⟨L', hw', hbel'⟩ := hw3.out
      clear hw3 HT hnq
      go_wp2_with fail
      go_roundw
      case rel => exact ⟨k + 1, L', by omega, by go_num, hw', hbel'⟩
      case measure => simp [intOf]; omega
    · obtain rfl : k = n := by omega
      have hL := hw.nothing (fun m => by rw [Nat.sub_self]; rfl)
      subst hL
      have HT : ∀ q, Calls Yba.prog 6 #[.pointer (some ⟨w.heap.size + 1 + 1, 0, none⟩)] (wr.drewN q) fun e w' => e = .returned (.pointer none) ∧ ∃ q', w' = wr.drewN q' := fun q => by
        refine (take_bwd (hw.drewN q)).mono ?_
        rintro e w' (⟨rfl, hb', q', rfl⟩ | ⟨f, rfl, hb', hw', hK⟩)
        · exact ⟨rfl, _, World.drewN_drewN _ _ _⟩
        · obtain ⟨⟨m, _, hm⟩, _⟩ := hb'
          have hm2 : prv md m (k - k) = some f := hm
          rw [Nat.sub_self] at hm2
          cases hm2
      have HD : ∀ q, Calls Yba.prog 7 #[.pointer (some ⟨w.heap.size + 1 + 1, 0, none⟩)] (wr.drewN q) fun e w' => e = .returned (.bool true) ∧ wr.drewN q = w' := fun q =>
        done_any _ _ hw.left (fun m hm => by have := hw.fronts m hm; rw [Nat.sub_self] at this; exact this)
      have HT0 := HT 0
      rw [World.drewN_zero] at HT0
      clear hw hw1 hbel1
      go_wp2_with fail
      refine HT0.mono ?_
      rintro e w3 ⟨rfl, q3, hw3⟩
      subst w3
      go_wp2_with fail
      refine (HD q3).mono ?_
      rintro e w4 ⟨rfl, hw4⟩
      subst w4
      go_wp2_with fail
      refine (HT q3).mono ?_
      rintro e w5 ⟨rfl, q5, hw5⟩
      subst w5
      go_wp2_with fail
      go_ret
      exact ⟨rfl, hbel.trans ⟨rfl, rfl, rfl, Nat.le_refl _, fun _ _ => rfl⟩⟩
theorem lt_of_cell {w : World} {a : Addr} {v : Value} (h : w.cell? a = some v) : a.block < w.heap.size := by
  rcases Nat.lt_or_ge a.block w.heap.size with c | c
  · exact c
  · simp [World.cell?, Array.getElem?_eq_none c] at h

/-- A place that holds something is no mere spot. -/
theorem addr_plain {w : World} {a : Addr} {v : Value} (h : w.cell? (a.add 0) = some v) : ∃ b o, a = ⟨b, o, none⟩ := by
  obtain ⟨b, o, sp⟩ := a
  cases sp with
  | none => exact ⟨b, o, rfl⟩
  | some x =>
    simp only [Addr.add, if_true, World.cell?] at h
    split at h
    · simp at h
    · cases h

theorem add_plain (b o j : Nat) : (⟨b, o, none⟩ : Addr).add j = ⟨b, o + j, none⟩ := by
  cases j <;> simp [Addr.add]

end Go.Proofs.Ybulkaqny

/-
  LawS2105CModel at a slice without elements; small laws on addresses.
-/
import Derived.Test.YbulkaqomC4
namespace Go.Proofs.Ybulkaqom
open Go.RowKit

set_option maxHeartbeats 1000000 in
theorem cbuild_zero (a : Option Addr) (n cap : Nat) (H : Nat → Int) (B : Nat → Bool) (S G : Nat → Int) (w : World) (hn : n ≤ 0) :
    Calls Yba.prog 25 #[.slice a n cap] w fun e w' => e = .returned (.pointer (some ⟨w.heap.size + 1, 0, none⟩)) ∧ CBuilt w w' n n H B S G := by
  obtain ⟨i0, hi0, hz0, hz1, hz2⟩ := info_parts info25
  have hmk := run_make (P := Yba.prog) w 99 25 i0 _ Yba.underlying99 hi0 hz0 .i64 .i64 (n : Int) (n : Int) (by omega) (by omega) (by rw [hz2]; omega) (by omega)
  rw [hz1, Int.toNat_natCast] at hmk
  clear hi0 hz0 hz1 hz2
  have hstart := cstart_built w n H B S G
  go_enter Yba.func25, Yba.ntmps25
  go_wp2_with fail
  change Code.wp _ _ _ _ (cstart w n)
  generalize cstart w n = w2 at *
  clear hmk
  go_loopw [12] (fun x wr => ∃ i : Nat, i ≤ n ∧ x = .int .i64 i ∧ CBuilt w wr n i H B S G) (fun x _ => n - (intOf x).toNat)
  case atStart => exact ⟨0, Nat.zero_le _, rfl, hstart⟩
  case round =>
    obtain ⟨i, hi, rfl, hbt⟩ := hrel
    obtain rfl : i = n := by omega
    go_wp2_with fail
    go_ret
    exact ⟨rfl, hbt⟩

set_option maxHeartbeats 1000000 in
theorem c_zero (a : Option Addr) (n cap : Nat) (H : Nat → Int) (B : Nat → Bool) (S G : Nat → Int) (now : Int) (w : World) (hn : n ≤ 0) :
    Calls Yba.prog 7 #[.slice a n cap, .int .i64 now] w fun e w' => e = .returned (.bool true) ∧ Below w.heap.size w w' := by
  have HB := cbuild_zero a n cap H B S G w hn
  go_enter Yba.func7, Yba.ntmps7
  go_wp2_with fail
  refine HB.mono ?_
  rintro e w1 ⟨rfl, hbt⟩
  have hbel1 := hbt.bel
  have hsz1 := hbt.size
  have hages := hbt.ages
  clear HB hbt
  go_wp2_with fail
  go_loopw [6, 15] (fun v x wr => ∃ i : Nat, i ≤ n ∧ x = .int .i64 i ∧ v = .bool (anyTo (fun i => modelF (H i) (B i) (S i) now) i) ∧ Below w1.heap.size w1 wr) (fun _ x _ => n - (intOf x).toNat)
  case atStart => exact ⟨0, Nat.zero_le _, rfl, rfl, Below.refl _ _⟩
  case round =>
    obtain ⟨i, hi, rfl, rfl, hbel⟩ := hrel
    have hsz := hbel.size
    have hbel2 : Below w.heap.size w wr := hbel1.trans (hbel.mono (by omega))
    obtain rfl : i = n := by omega
    have HD := ldue_any (w.heap.size + 1) w.heap.size i (fun j => horF (H j)) B S now wr (by omega) (hages.move (by omega) (by omega) hbel)
    simp only [model_due] at HD
    generalize anyTo (fun i => modelF (H i) (B i) (S i) now) i = v at *
    go_wp2_with fail
    refine HD.mono ?_
    rintro e w2 ⟨rfl, q, hw2⟩
    subst w2
    go_wp2_with fail
    go_ret
    exact ⟨by simp, hbel2.trans ⟨rfl, rfl, rfl, Nat.le_refl _, fun _ _ => rfl⟩⟩

theorem lt_of_cell {w : World} {a : Addr} {v : Value} (h : w.cell? a = some v) : a.block < w.heap.size := by
  rcases Nat.lt_or_ge a.block w.heap.size with c | c
  · exact c
  · simp [World.cell?, Array.getElem?_eq_none c] at h

/-- A place that holds something is no mere spot. -/
theorem addr_plain {w : World} {a : Addr} {v : Value} (h : w.cell? (a.add 0) = some v) : ∃ b o, a = ⟨b, o, none⟩ := by
  obtain ⟨b, o, sp⟩ := a
  cases sp with
  | none => exact ⟨b, o, rfl⟩
  | some x =>
    simp only [Addr.add, if_true, World.cell?] at h
    split at h
    · simp at h
    · cases h

theorem add_plain (b o j : Nat) : (⟨b, o, none⟩ : Addr).add j = ⟨b, o + j, none⟩ := by
  cases j <;> simp [Addr.add]

end Go.Proofs.Ybulkaqom

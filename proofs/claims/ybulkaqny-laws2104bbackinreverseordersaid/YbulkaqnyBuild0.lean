/-
  zzs2104bbuild of no request.
-/
import Derived.Test.YbulkaqnyBuildB
namespace Go.Proofs.Ybulkaqny
open Go.RowKit

set_option maxHeartbeats 1000000 in
set_option maxRecDepth 100000 in
theorem build_fwd0 (a : Option Addr) (n cap : Nat) (md : Nat → Nat) (w : World) (hn : n ≤ 0) (hmd : ∀ i, 1 ≤ md i ∧ md i ≤ 5) :
    Calls Yba.prog 5 #[.slice a n cap, .bool false] w fun e w' => e = .returned (.tuple #[.pointer (some ⟨w.heap.size + 1 + 1, 0, none⟩), .slice (some ⟨w.heap.size, 0, none⟩) n n]) ∧
      ∃ L, Walk w' (w.heap.size + 1 + 1) (w.heap.size + 1) w.heap.size n md false (fun i => nxt md (md i) (i + 1) n) (fun m => nxt md m 0 n) L ∧ Below w.heap.size w w' := by
  obtain ⟨i0, hi0, hz0, hz1, hz2⟩ := info_parts info37
  have hmk := run_make (P := Yba.prog) w 24 37 i0 _ Yba.underlying24 hi0 hz0 .i64 .i64 (n : Int) (n : Int) (by omega) (by omega) (by rw [hz2]; omega) (by omega)
  rw [hz1, Int.toNat_natCast] at hmk
  clear hi0 hz0 hz1 hz2
  have hstart := start_built w n md false
  have HMD : Hid (∀ i, 1 ≤ md i ∧ md i ≤ 5) := hmd
  clear hmd
  go_enter Yba.func5, Yba.ntmps5
  go_wp2_with fail
  change Code.wp _ _ _ _ (startWorld w n false)
  generalize startWorld w n false = w2 at *
  clear hmk
  go_loopw [11] (fun x wr => ∃ (i L : Nat), i ≤ n ∧ x = .int .i64 i ∧ Built w wr n i md false L) (fun x _ => n - (intOf x).toNat)
  case atStart => exact ⟨0, 0, Nat.zero_le _, rfl, hstart⟩
  case round =>
    obtain ⟨i, L, hi, rfl, hbt⟩ := hrel
    obtain rfl : i = n := by omega
    have hsz := hbt.size
    have h0 := hbt.heads 0 (by omega)
    have h1 := hbt.heads 1 (by omega)
    have h2 := hbt.heads 2 (by omega)
    have h3 := hbt.heads 3 (by omega)
    have h4 := hbt.heads 4 (by omega)
    have h5 := hbt.heads 5 (by omega)
    have f0 := hbt.fronts 0 (by omega)
    have f1 := hbt.fronts 1 (by omega)
    have f2 := hbt.fronts 2 (by omega)
    have f3 := hbt.fronts 3 (by omega)
    have f4 := hbt.fronts 4 (by omega)
    have f5 := hbt.fronts 5 (by omega)
    have z1 := hbt.fr (w.heap.size + 1 + 1) 1 (by omega) (by omega)
    have z2 := hbt.fr (w.heap.size + 1 + 1) 2 (by omega) (by omega)
    have z3 := hbt.fr (w.heap.size + 1 + 1) 3 (by omega) (by omega)
    have z4 := hbt.fr (w.heap.size + 1 + 1) 4 (by omega) (by omega)
    have z5 := hbt.fr (w.heap.size + 1 + 1) 5 (by omega) (by omega)
    have z6 := hbt.fr (w.heap.size + 1 + 1) 6 (by omega) (by omega)
    simp only [Nat.reduceAdd] at f0 f1 f2 f3 f4 f5
    have fin := hbt.walk HMD.out (fun j => nxt md (md j) (j + 1) i) (fun m => nxt md m 0 i) (fun j hj => by simp) (fun m => heads_some md i m) (fun m j hj => by obtain ⟨_, a, b, _⟩ := nxt_some hj; exact ⟨a, b⟩)
    go_wp2_with fail
    go_ret2
    exact ⟨rfl, L, fin⟩
set_option maxHeartbeats 1000000 in
set_option maxRecDepth 100000 in
theorem build_bwd0 (a : Option Addr) (n cap : Nat) (md : Nat → Nat) (w : World) (hn : n ≤ 0) (hmd : ∀ i, 1 ≤ md i ∧ md i ≤ 5) :
    Calls Yba.prog 5 #[.slice a n cap, .bool true] w fun e w' => e = .returned (.tuple #[.pointer (some ⟨w.heap.size + 1 + 1, 0, none⟩), .slice (some ⟨w.heap.size, 0, none⟩) n n]) ∧
      ∃ L, Walk w' (w.heap.size + 1 + 1) (w.heap.size + 1) w.heap.size n md true (fun i => prv md (md i) i) (fun m => prv md m n) L ∧ Below w.heap.size w w' := by
  obtain ⟨i0, hi0, hz0, hz1, hz2⟩ := info_parts info37
  have hmk := run_make (P := Yba.prog) w 24 37 i0 _ Yba.underlying24 hi0 hz0 .i64 .i64 (n : Int) (n : Int) (by omega) (by omega) (by rw [hz2]; omega) (by omega)
  rw [hz1, Int.toNat_natCast] at hmk
  clear hi0 hz0 hz1 hz2
  have hstart := start_built w n md true
  have HMD : Hid (∀ i, 1 ≤ md i ∧ md i ≤ 5) := hmd
  clear hmd
  go_enter Yba.func5, Yba.ntmps5
  go_wp2_with fail
  change Code.wp _ _ _ _ (startWorld w n true)
  generalize startWorld w n true = w2 at *
  clear hmk
  go_loopw [11] (fun x wr => ∃ (i L : Nat), i ≤ n ∧ x = .int .i64 i ∧ Built w wr n i md true L) (fun x _ => n - (intOf x).toNat)
  case atStart => exact ⟨0, 0, Nat.zero_le _, rfl, hstart⟩
  case round =>
    obtain ⟨i, L, hi, rfl, hbt⟩ := hrel
    obtain rfl : i = n := by omega
    have hsz := hbt.size
    have h0 := hbt.tails 0 (by omega)
    have h1 := hbt.tails 1 (by omega)
    have h2 := hbt.tails 2 (by omega)
    have h3 := hbt.tails 3 (by omega)
    have h4 := hbt.tails 4 (by omega)
    have h5 := hbt.tails 5 (by omega)
    have f0 := hbt.fronts 0 (by omega)
    have f1 := hbt.fronts 1 (by omega)
    have f2 := hbt.fronts 2 (by omega)
    have f3 := hbt.fronts 3 (by omega)
    have f4 := hbt.fronts 4 (by omega)
    have f5 := hbt.fronts 5 (by omega)
    have z1 := hbt.fr (w.heap.size + 1 + 1) 1 (by omega) (by omega)
    have z2 := hbt.fr (w.heap.size + 1 + 1) 2 (by omega) (by omega)
    have z3 := hbt.fr (w.heap.size + 1 + 1) 3 (by omega) (by omega)
    have z4 := hbt.fr (w.heap.size + 1 + 1) 4 (by omega) (by omega)
    have z5 := hbt.fr (w.heap.size + 1 + 1) 5 (by omega) (by omega)
    have z6 := hbt.fr (w.heap.size + 1 + 1) 6 (by omega) (by omega)
    simp only [Nat.reduceAdd] at f0 f1 f2 f3 f4 f5
    have fin := hbt.walk HMD.out (fun j => prv md (md j) j) (fun m => prv md m i) (fun j hj => by simp) (fun m => rfl) (fun m j hj => by obtain ⟨a, b, _⟩ := prv_some hj; exact ⟨a, b⟩)
    go_wp2_with fail
    go_ret2
    exact ⟨rfl, L, fin⟩
end Go.Proofs.Ybulkaqny

/-
  zzs2104bbuild, walked: back.
-/
import Derived.Test.YbulkaqnyBuildW
namespace Go.Proofs.Ybulkaqny
open Go.RowKit

set_option maxHeartbeats 1000000 in
set_option maxRecDepth 100000 in
theorem build_bwd (b off n cap : Nat) (ms md : Nat → Nat) (w : World) (hb : b < w.heap.size) (hn : n ≤ 1024) (hmd : ∀ i, md i = 1 + ms i % 5) (hms : ∀ i, i < n → w.cell? ⟨b, off + i, none⟩ = some (.int .u8 (ms i)) ∧ ms i < 256) :
    Calls Yba.prog 5 #[.slice (some ⟨b, off, none⟩) n cap, .bool true] w fun e w' => e = .returned (.tuple #[.pointer (some ⟨w.heap.size + 1 + 1, 0, none⟩), .slice (some ⟨w.heap.size, 0, none⟩) n n]) ∧
      ∃ L, Walk w' (w.heap.size + 1 + 1) (w.heap.size + 1) w.heap.size n md true (fun i => prv md (md i) i) (fun m => prv md m n) L ∧ Below w.heap.size w w' := by
  obtain ⟨i0, hi0, hz0, hz1, hz2⟩ := info_parts info37
  have hmk := run_make (P := Yba.prog) w 24 37 i0 _ Yba.underlying24 hi0 hz0 .i64 .i64 (n : Int) (n : Int) (by omega) (by omega) (by rw [hz2]; omega) (by omega)
  rw [hz1, Int.toNat_natCast] at hmk
  clear hi0 hz0 hz1 hz2
  have hstart := start_built w n md true
  have HMD : Hid (∀ i, md i = 1 + ms i % 5) := hmd
  clear hmd
  go_enter Yba.func5, Yba.ntmps5
  go_wp2_with fail
  change Code.wp _ _ _ _ (startWorld w n true)
  generalize startWorld w n true = w2 at *
  clear hmk
  go_loopw [11] (fun x wr => ∃ (i L : Nat), i ≤ n ∧ x = .int .i64 i ∧ Built w wr n i md true L) (fun x _ => n - (intOf x).toNat)
  case atStart => exact ⟨0, 0, Nat.zero_le _, rfl, hstart⟩
  case round =>
    obtain ⟨i, L, hi, rfl, hbt⟩ := hrel
    by_cases hlt : i < n
    · obtain ⟨hc, hc256⟩ := hms i hlt
      have hsz := hbt.size
      have hcell := (hbt.bel.cell (p := ⟨b, off + i, none⟩) hb).trans hc
      have hm15 : 1 ≤ md i ∧ md i ≤ 5 := by have := HMD.out i; omega
      have e1 : (1 : Int) + (ms i : Int) % 5 = (md i : Int) := by have := HMD.out i; omega
      have hr1 : (1 : Int) ≤ (md i : Int) := by omega
      have hr2 : (md i : Int) < 6 := by omega
      have hq3 := hbt.req i hlt 3 (by omega)
      have hq12 := hbt.req i hlt 12 (by omega)
      have hf : ∀ j, wr.frozen? ⟨w.heap.size, j, none⟩ = false := fun j => hbt.fr _ j (Nat.le_refl _) (by omega)
      have hf2 := hbt.fr (w.heap.size + 1 + 1) 7 (by omega) (by omega)
      have hf3 := hbt.fr (w.heap.size + 1 + 1 + 1) (md i) (by omega) (by omega)
      have hf4 := hbt.fr (w.heap.size + 1 + 1 + 1 + 1) (md i) (by omega) (by omega)
      have ht := hbt.tails (md i) (by omega)
      have hh := hbt.heads (md i) (by omega)
      have hl := hbt.left
      cases hp : prv md (md i) i with
      | none =>
        rw [hp] at ht
        have ht' : wr.cell? ⟨w.heap.size + 1 + 1 + 1 + 1, md i, none⟩ = some (.pointer none) := ht
        have fin := hbt.new hlt hm15 hp (.int .u8 (bits BinOp.or .u8 (L : Int) (2 ^ md i % 256))) (by rw [(add_of hbt.lt (show md i < 6 by omega)).1])
        clear ht hp
        go_wp2_with fail
        go_roundw
        case rel => exact ⟨i + 1, _, by omega, by go_num, fin⟩
        case measure => simp [intOf]; omega
      | some t =>
        rw [hp] at ht
        have ht' : wr.cell? ⟨w.heap.size + 1 + 1 + 1 + 1, md i, none⟩ = some (.pointer (some ⟨w.heap.size, t * 13, none⟩)) := ht
        have fin := hbt.old hlt hm15 hp
        have hti := (prv_some hp).1
        have hqn := hbt.req t (by omega) 9 (by omega)
        have hqp := hbt.req i hlt 8 (by omega)
        clear ht hp hh hl hf2 hf3
        go_wp2_with fail
        go_roundw
        case rel => exact ⟨i + 1, _, by omega, by go_num, fin⟩
        case measure => simp [intOf]; omega
    · obtain rfl : i = n := by omega
      have hsz := hbt.size
      have h0 := hbt.tails 0 (by omega)
      have h1 := hbt.tails 1 (by omega)
      have h2 := hbt.tails 2 (by omega)
      have h3 := hbt.tails 3 (by omega)
      have h4 := hbt.tails 4 (by omega)
      have h5 := hbt.tails 5 (by omega)
      have f0 := hbt.fronts 0 (by omega)
      have f1 := hbt.fronts 1 (by omega)
      have f2 := hbt.fronts 2 (by omega)
      have f3 := hbt.fronts 3 (by omega)
      have f4 := hbt.fronts 4 (by omega)
      have f5 := hbt.fronts 5 (by omega)
      have z1 := hbt.fr (w.heap.size + 1 + 1) 1 (by omega) (by omega)
      have z2 := hbt.fr (w.heap.size + 1 + 1) 2 (by omega) (by omega)
      have z3 := hbt.fr (w.heap.size + 1 + 1) 3 (by omega) (by omega)
      have z4 := hbt.fr (w.heap.size + 1 + 1) 4 (by omega) (by omega)
      have z5 := hbt.fr (w.heap.size + 1 + 1) 5 (by omega) (by omega)
      have z6 := hbt.fr (w.heap.size + 1 + 1) 6 (by omega) (by omega)
      simp only [Nat.reduceAdd] at f0 f1 f2 f3 f4 f5
      have fin := hbt.walk (fun i => by have := HMD.out i; omega) (fun j => prv md (md j) j) (fun m => prv md m i) (fun j hj => by simp) (fun m => rfl) (fun m j hj => by obtain ⟨a, b, _⟩ := prv_some hj; exact ⟨a, b⟩)
      go_wp2_with fail
      go_ret2
      exact ⟨rfl, L, fin⟩
end Go.Proofs.Ybulkaqny

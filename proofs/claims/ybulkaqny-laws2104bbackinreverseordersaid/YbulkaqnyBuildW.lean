/-
  zzs2104bbuild, walked: forward.
-/
import Derived.Test.YbulkaqnyBuild
namespace Go.Proofs.Ybulkaqny
open Go.RowKit

/-- The walk's fronts laid. -/
def frontWorld (wr : World) (bw br : Nat) (X : Nat → Option Nat) : World :=
  (((((wr.setCell ⟨bw, 1, none⟩ (.pointer (adr br (X 0)))).setCell ⟨bw, 2, none⟩ (.pointer (adr br (X 1)))).setCell ⟨bw, 3, none⟩ (.pointer (adr br (X 2)))).setCell ⟨bw, 4, none⟩ (.pointer (adr br (X 3)))).setCell ⟨bw, 5, none⟩ (.pointer (adr br (X 4)))).setCell ⟨bw, 6, none⟩ (.pointer (adr br (X 5)))

theorem Built.walk {w0 wr : World} {n L : Nat} {md : Nat → Nat} {back : Bool} (h : Built w0 wr n n md back L) (hmd : ∀ i, 1 ≤ md i ∧ md i ≤ 5) (lk X : Nat → Option Nat) (hlk : ∀ i, i < n → lk i = if back then prv md (md i) i else nxt md (md i) (i + 1) n)
    (hbit : ∀ m, (X m).isSome = (prv md m n).isSome) (hin : ∀ m j, X m = some j → j < n ∧ md j = m) :
    Walk (frontWorld wr (w0.heap.size + 1 + 1) w0.heap.size X) (w0.heap.size + 1 + 1) (w0.heap.size + 1) w0.heap.size n md back lk X L ∧ Below w0.heap.size w0 (frontWorld wr (w0.heap.size + 1 + 1) w0.heap.size X) := by
  have hsz := h.size
  have hK : Kept (fun x y => x = w0.heap.size + 1 + 1 ∧ 1 ≤ y ∧ y ≤ 6) wr (frontWorld wr (w0.heap.size + 1 + 1) w0.heap.size X) :=
    ((((((Kept.refl (fun x y => x = w0.heap.size + 1 + 1 ∧ 1 ≤ y ∧ y ≤ 6) wr).setCell (.inl (by omega)) _).setCell (.inl (by omega)) _).setCell (.inl (by omega)) _).setCell (.inl (by omega)) _).setCell (.inl (by omega)) _).setCell (.inl (by omega)) _
  have kr : ∀ j, (frontWorld wr (w0.heap.size + 1 + 1) w0.heap.size X).cell? ⟨w0.heap.size, j, none⟩ = wr.cell? ⟨w0.heap.size, j, none⟩ := fun j => hK.cell _ _ (by omega) (by omega)
  refine ⟨⟨(hK.cell _ _ (by omega) (by omega)).trans h.lock, fun m hm => ?_, (hK.cell _ _ (by omega) (by omega)).trans h.left, (hK.cell _ _ (by omega) (by omega)).trans h.bk, fun j => (hK.frozen _ _ (by omega)).trans (h.fr _ j (by omega) (by omega)),
    (hK.cell _ _ (by omega) (by omega)).trans h.ord, fun i hi => ?_, fun i hi => ?_, fun i hi => ?_, fun i hi => ?_, fun hb i hi => ?_, h.lt, fun m hm => by rw [h.bit m hm, hbit], hin, fun i _ => hmd i, fun i j hi hj => ?_, by omega, by omega, by have := hK.size; omega, by have := hK.size; omega, by have := hK.size; omega⟩,
    h.bel.trans (hK.below (fun k o hk ht => by omega) (by omega))⟩
  · have hf := h.fronts m hm
    simp only [frontWorld, cell_set]
    match m, hm with
    | 0, _ => simp at hf; simp [hf]
    | 1, _ => simp at hf; simp [hf]
    | 2, _ => simp at hf; simp [hf]
    | 3, _ => simp at hf; simp [hf]
    | 4, _ => simp at hf; simp [hf]
    | 5, _ => simp at hf; simp [hf]
  · rw [kr, h.req i hi 3 (by omega)]
    simp [reqCell, hi]
  · rw [kr, h.req i hi 4 (by omega)]
    simp [reqCell]
  · rw [kr, h.req i hi 12 (by omega)]
    simp [reqCell, hi]
  · rw [kr, h.req i hi 11 (by omega)]
    have := hlk i hi
    cases back <;> simp [reqCell, onx, opv, hi] at this ⊢
    · rw [this]
    · rfl
  · subst hb
    rw [kr, h.req i hi 8 (by omega)]
    have := hlk i hi
    simp [reqCell, onx, opv, hi] at this ⊢
    rw [this]
  · rw [hlk i hi] at hj
    cases back <;> simp at hj
    · obtain ⟨_, a, b, _⟩ := nxt_some hj
      exact ⟨a, b⟩
    · obtain ⟨a, b, _⟩ := prv_some hj
      exact ⟨by omega, b⟩

theorem heads_some (md : Nat → Nat) (n m : Nat) : (nxt md m 0 n).isSome = (prv md m n).isSome := by
  cases h : nxt md m 0 n with
  | some x =>
    obtain ⟨_, a, b, _⟩ := nxt_some h
    cases h2 : prv md m n with
    | some y => rfl
    | none => exact absurd b (prv_none h2 x a)
  | none =>
    cases h2 : prv md m n with
    | none => rfl
    | some y =>
      obtain ⟨a, b, _⟩ := prv_some h2
      exact absurd b (nxt_none h y (by omega) a)

set_option maxHeartbeats 1000000 in
set_option maxRecDepth 100000 in
theorem build_fwd (b off n cap : Nat) (ms md : Nat → Nat) (w : World) (hb : b < w.heap.size) (hn : n ≤ 1024) (hmd : ∀ i, md i = 1 + ms i % 5) (hms : ∀ i, i < n → w.cell? ⟨b, off + i, none⟩ = some (.int .u8 (ms i)) ∧ ms i < 256) :
    Calls Yba.prog 5 #[.slice (some ⟨b, off, none⟩) n cap, .bool false] w fun e w' => e = .returned (.tuple #[.pointer (some ⟨w.heap.size + 1 + 1, 0, none⟩), .slice (some ⟨w.heap.size, 0, none⟩) n n]) ∧
      ∃ L, Walk w' (w.heap.size + 1 + 1) (w.heap.size + 1) w.heap.size n md false (fun i => nxt md (md i) (i + 1) n) (fun m => nxt md m 0 n) L ∧ Below w.heap.size w w' := by
  obtain ⟨i0, hi0, hz0, hz1, hz2⟩ := info_parts info37
  have hmk := run_make (P := Yba.prog) w 24 37 i0 _ Yba.underlying24 hi0 hz0 .i64 .i64 (n : Int) (n : Int) (by omega) (by omega) (by rw [hz2]; omega) (by omega)
  rw [hz1, Int.toNat_natCast] at hmk
  clear hi0 hz0 hz1 hz2
  have hstart := start_built w n md false
  have HMD : Hid (∀ i, md i = 1 + ms i % 5) := hmd
  clear hmd
  go_enter Yba.func5, Yba.ntmps5
  go_wp2_with fail
  change Code.wp _ _ _ _ (startWorld w n false)
  generalize startWorld w n false = w2 at *
  clear hmk
  go_loopw [11] (fun x wr => ∃ (i L : Nat), i ≤ n ∧ x = .int .i64 i ∧ Built w wr n i md false L) (fun x _ => n - (intOf x).toNat)
  case atStart => exact ⟨0, 0, Nat.zero_le _, rfl, hstart⟩
  case round =>
    obtain ⟨i, L, hi, rfl, hbt⟩ := hrel
    by_cases hlt : i < n
    · obtain ⟨hc, hc256⟩ := hms i hlt
      have hsz := hbt.size
      have hcell := (hbt.bel.cell (p := ⟨b, off + i, none⟩) hb).trans hc
      have hm15 : 1 ≤ md i ∧ md i ≤ 5 := by have := HMD.out i; omega
      have e1 : (1 : Int) + (ms i : Int) % 5 = (md i : Int) := by have := HMD.out i; omega
      have hr1 : (1 : Int) ≤ (md i : Int) := by omega
      have hr2 : (md i : Int) < 6 := by omega
      have hq3 := hbt.req i hlt 3 (by omega)
      have hq12 := hbt.req i hlt 12 (by omega)
      have hf : ∀ j, wr.frozen? ⟨w.heap.size, j, none⟩ = false := fun j => hbt.fr _ j (Nat.le_refl _) (by omega)
      have hf2 := hbt.fr (w.heap.size + 1 + 1) 7 (by omega) (by omega)
      have hf3 := hbt.fr (w.heap.size + 1 + 1 + 1) (md i) (by omega) (by omega)
      have hf4 := hbt.fr (w.heap.size + 1 + 1 + 1 + 1) (md i) (by omega) (by omega)
      have ht := hbt.tails (md i) (by omega)
      have hh := hbt.heads (md i) (by omega)
      have hl := hbt.left
      cases hp : prv md (md i) i with
      | none =>
        rw [hp] at ht
        have ht' : wr.cell? ⟨w.heap.size + 1 + 1 + 1 + 1, md i, none⟩ = some (.pointer none) := ht
        have fin := hbt.new hlt hm15 hp (.int .u8 (bits BinOp.or .u8 (L : Int) (2 ^ md i % 256))) (by rw [(add_of hbt.lt (show md i < 6 by omega)).1])
        clear ht hp
        go_wp2_with fail
        go_roundw
        case rel => exact ⟨i + 1, _, by omega, by go_num, fin⟩
        case measure => simp [intOf]; omega
      | some t =>
        rw [hp] at ht
        have ht' : wr.cell? ⟨w.heap.size + 1 + 1 + 1 + 1, md i, none⟩ = some (.pointer (some ⟨w.heap.size, t * 13, none⟩)) := ht
        have fin := hbt.old hlt hm15 hp
        have hti := (prv_some hp).1
        have hqn := hbt.req t (by omega) 11 (by omega)
        have hqp := hbt.req i hlt 10 (by omega)
        clear ht hp hh hl hf2 hf3
        go_wp2_with fail
        go_roundw
        case rel => exact ⟨i + 1, _, by omega, by go_num, fin⟩
        case measure => simp [intOf]; omega
    · obtain rfl : i = n := by omega
      have hsz := hbt.size
      have h0 := hbt.heads 0 (by omega)
      have h1 := hbt.heads 1 (by omega)
      have h2 := hbt.heads 2 (by omega)
      have h3 := hbt.heads 3 (by omega)
      have h4 := hbt.heads 4 (by omega)
      have h5 := hbt.heads 5 (by omega)
      have f0 := hbt.fronts 0 (by omega)
      have f1 := hbt.fronts 1 (by omega)
      have f2 := hbt.fronts 2 (by omega)
      have f3 := hbt.fronts 3 (by omega)
      have f4 := hbt.fronts 4 (by omega)
      have f5 := hbt.fronts 5 (by omega)
      have z1 := hbt.fr (w.heap.size + 1 + 1) 1 (by omega) (by omega)
      have z2 := hbt.fr (w.heap.size + 1 + 1) 2 (by omega) (by omega)
      have z3 := hbt.fr (w.heap.size + 1 + 1) 3 (by omega) (by omega)
      have z4 := hbt.fr (w.heap.size + 1 + 1) 4 (by omega) (by omega)
      have z5 := hbt.fr (w.heap.size + 1 + 1) 5 (by omega) (by omega)
      have z6 := hbt.fr (w.heap.size + 1 + 1) 6 (by omega) (by omega)
      simp only [Nat.reduceAdd] at f0 f1 f2 f3 f4 f5
      have fin := hbt.walk (fun i => by have := HMD.out i; omega) (fun j => nxt md (md j) (j + 1) i) (fun m => nxt md m 0 i) (fun j hj => by simp) (fun m => heads_some md i m) (fun m j hj => by obtain ⟨_, a, b, _⟩ := nxt_some hj; exact ⟨a, b⟩)
      go_wp2_with fail
      go_ret2
      exact ⟨rfl, L, fin⟩
end Go.Proofs.Ybulkaqny

/-
  zzs2105cbuild.
-/
import Derived.Test.YbulkaqomC2
namespace Go.Proofs.Ybulkaqom
open Go.RowKit

theorem info25 : (Yba.prog.info? 25).map (fun i => (i.zero, i.size, i.bytes)) = some (some (.agg #[.int .i64 0, .bool false, .int .i64 0, .int .i64 0]), 4, 32) := by kernel_rfl

/-- A cell behind a store. -/
theorem cell_set (w : World) (b o b' o' : Nat) (v : Value) : (w.setCell ⟨b, o, none⟩ v).cell? ⟨b', o', none⟩ = if b' = b ∧ o' = o then (w.cell? ⟨b', o', none⟩).map (fun _ => v) else w.cell? ⟨b', o', none⟩ := by
  by_cases h : b' = b ∧ o' = o
  · rw [if_pos h]
    obtain ⟨rfl, rfl⟩ := h
    cases hc : w.cell? ⟨b', o', none⟩ with
    | some u => exact cell_set_same hc
    | none =>
      have : ∀ u, (w.setCell ⟨b', o', none⟩ v).cell? ⟨b', o', none⟩ ≠ some u := by
        intro u hu
        simp only [World.cell?, World.setCell, Array.getElem?_modify] at hu hc
        cases hb : w.heap[b']? with
        | none => rw [hb] at hu; simp at hu
        | some x =>
          rw [hb] at hu hc
          cases x <;> simp at hu hc
          rename_i cs e fz
          rw [Array.getElem?_setIfInBounds] at hu
          split at hu
          · split at hu
            · omega
            · cases hu
          · rw [Array.getElem?_eq_none hc] at hu; cases hu
      cases hx : (w.setCell ⟨b', o', none⟩ v).cell? ⟨b', o', none⟩ with
      | none => rfl
      | some u => exact absurd hx (this u)
  · rw [if_neg h]
    exact World.cell?_setCell_other w _ _ _ (addr_ne h)

def ageZero : Array Value := #[.int .i64 0, .bool false, .int .i64 0, .int .i64 0]

def cstart (w : World) (n : Nat) : World := (w.alloc (.cells (madeCells ageZero (n * 4)) 25)).alloc
  (.cells #[.slice none 0 0, .slice (some ⟨w.heap.size, 0, none⟩) n n, .pointer none, .int .u64 0, .int .i32 0, .int .u32 0, .int .i64 0, .int .u64 0, .int .i64 0, .pointer none, .int .i64 0] 117)

/-- What cell c of the j-th age holds when i of them are laid. -/
def ageCell (H : Nat → Int) (B : Nat → Bool) (S G : Nat → Int) (i j c : Nat) : Value :=
  if c = 1 then .bool (if j < i then B j else false) else .int .i64 (if j < i then (if c = 0 then horF (H j) else if c = 2 then S j else G j) else 0)

structure CBuilt (w0 wr : World) (n i : Nat) (H : Nat → Int) (B : Nat → Bool) (S G : Nat → Int) : Prop where
  bel : Below w0.heap.size w0 wr
  size : w0.heap.size + 2 ≤ wr.heap.size
  sl : wr.cell? ⟨w0.heap.size + 1, 1, none⟩ = some (.slice (some ⟨w0.heap.size, 0, none⟩) n n)
  row : ∀ j, j < n → ∀ c, c < 4 → wr.cell? ⟨w0.heap.size, j * 4 + c, none⟩ = some (ageCell H B S G i j c)
  fr : ∀ j, wr.frozen? ⟨w0.heap.size, j, none⟩ = false

theorem cstart_built (w : World) (n : Nat) (H : Nat → Int) (B : Nat → Bool) (S G : Nat → Int) : CBuilt w (cstart w n) n 0 H B S G := by
  have s1 : ∀ o, (w.alloc o).heap.size = w.heap.size + 1 := fun o => by simp
  have c0 : ∀ j, (cstart w n).cell? ⟨w.heap.size, j, none⟩ = (madeCells ageZero (n * 4))[j]? := fun j =>
    (World.cell?_alloc_past _ _ _ (by rw [s1]; omega)).trans (World.cell?_alloc_new _ _ _ _)
  refine ⟨((Below.refl _ w).alloc (Nat.le_refl _) _).alloc (by simp) _, by simp [cstart], World.cell?_alloc_at _ _ _ _ (s1 _).symm, fun j hj c hc => ?_, fun j => ?_⟩
  · rw [c0]
    have hlt : j * 4 + c < n * 4 := by omega
    have e : (j * 4 + c) % ageZero.size = c := by
      show (j * 4 + c) % 4 = c
      omega
    have : (madeCells ageZero (n * 4))[j * 4 + c]? = some (ageZero[c]!) := by
      simp only [madeCells]
      rw [Array.getElem?_map, Array.getElem?_range, if_pos hlt]
      simp [e]
    rw [this]
    congr 1
    have h0 : ∀ i, ¬ (i < 0) := fun i => by omega
    match c, hc with
    | 0, _ => simp [ageCell, ageZero]
    | 1, _ => simp [ageCell, ageZero]
    | 2, _ => simp [ageCell, ageZero]
    | 3, _ => simp [ageCell, ageZero]
  · have : (cstart w n).frozen? ⟨w.heap.size, j, none⟩ = w.frozen? ⟨w.heap.size, j, none⟩ := by
      simp only [cstart, frozen?_alloc_cells]
    rw [this]
    simp [World.frozen?]

/-- The world behind one age more. -/
def cstep (wr : World) (b o : Nat) (h : Int) (bg : Bool) (s g : Int) : World :=
  ((((wr.setCell ⟨b, o, none⟩ (.int .i64 h)).setCell ⟨b, o + 1, none⟩ (.bool bg)).setCell ⟨b, o + 2, none⟩ (.int .i64 s)).setCell ⟨b, o + 3, none⟩ (.int .i64 g)).drew

theorem CBuilt.step {w0 wr : World} {n i : Nat} {H : Nat → Int} {B : Nat → Bool} {S G : Nat → Int} (h : CBuilt w0 wr n i H B S G) (hi : i < n) : CBuilt w0 (cstep wr w0.heap.size (i * 4) (horF (H i)) (B i) (S i) (G i)) n (i + 1) H B S G := by
  have hsz := h.size
  have hK : Kept (fun x _ => x = w0.heap.size) wr (cstep wr w0.heap.size (i * 4) (horF (H i)) (B i) (S i) (G i)) := (((((Kept.refl (fun x _ => x = w0.heap.size) wr).setCell (.inl rfl) _).setCell (.inl rfl) _).setCell (.inl rfl) _).setCell (.inl rfl) _).drew
  refine ⟨h.bel.trans (hK.below (fun k o hk ht => by omega) (by omega)), Nat.le_trans hsz hK.size, (hK.cell _ _ (by omega) (by omega)).trans h.sl, fun j hj c hc => ?_, fun j => (hK.frozen _ _ (by omega)).trans (h.fr j)⟩
  have hr := h.row j hj c hc
  show (((((wr.setCell ⟨w0.heap.size, i * 4, none⟩ (.int .i64 (horF (H i)))).setCell ⟨w0.heap.size, i * 4 + 1, none⟩ (.bool (B i))).setCell ⟨w0.heap.size, i * 4 + 2, none⟩ (.int .i64 (S i))).setCell ⟨w0.heap.size, i * 4 + 3, none⟩ (.int .i64 (G i))).cell? ⟨w0.heap.size, j * 4 + c, none⟩) = _
  simp only [cell_set]
  by_cases e : j = i
  · subst e
    have h1 : j < j + 1 := by omega
    match c, hc with
    | 0, _ => rw [if_neg (by omega), if_neg (by omega), if_neg (by omega), if_pos (by simp), hr]; simp [ageCell, h1]
    | 1, _ => rw [if_neg (by omega), if_neg (by omega), if_pos (by simp), if_neg (by omega), hr]; simp [ageCell, h1]
    | 2, _ => rw [if_neg (by omega), if_pos (by simp), if_neg (by omega), if_neg (by omega), hr]; simp [ageCell, h1]
    | 3, _ => rw [if_pos (by simp), if_neg (by omega), if_neg (by omega), if_neg (by omega), hr]; simp [ageCell, h1]
  · rw [if_neg (by omega), if_neg (by omega), if_neg (by omega), if_neg (by omega), hr]
    have : (j < i + 1) ↔ (j < i) := by omega
    simp [ageCell, this]

theorem CBuilt.ages {w0 wr : World} {n : Nat} {H : Nat → Int} {B : Nat → Bool} {S G : Nat → Int} (h : CBuilt w0 wr n n H B S G) : Ages wr (w0.heap.size + 1) w0.heap.size n (fun i => horF (H i)) B S :=
  ⟨h.sl, fun i hi => by have := h.row i hi 0 (by omega); simpa [ageCell, hi] using this, fun i hi => by have := h.row i hi 1 (by omega); simpa [ageCell, hi] using this, fun i hi => by have := h.row i hi 2 (by omega); simpa [ageCell, hi] using this⟩

/-- One policy's age as it came in. -/
structure AgeAt (w : World) (b o : Nat) (h : Int) (bg : Bool) (s g : Int) : Prop where
  c0 : w.cell? ⟨b, o, none⟩ = some (.int .i64 h)
  c1 : w.cell? ⟨b, o + 1, none⟩ = some (.bool bg)
  c2 : w.cell? ⟨b, o + 2, none⟩ = some (.int .i64 s)
  c3 : w.cell? ⟨b, o + 3, none⟩ = some (.int .i64 g)
  lo : -9223372036854775808 ≤ h
  hi : h ≤ 9223372036854775807

theorem AgeAt.move {w w' : World} {b o : Nat} {h : Int} {bg : Bool} {s g : Int} (a : AgeAt w b o h bg s g) (hb : b < w.heap.size) (hbel : Below w.heap.size w w') : AgeAt w' b o h bg s g :=
  ⟨(hbel.cell (p := ⟨b, o, none⟩) hb).trans a.c0, (hbel.cell (p := ⟨b, o + 1, none⟩) hb).trans a.c1, (hbel.cell (p := ⟨b, o + 2, none⟩) hb).trans a.c2, (hbel.cell (p := ⟨b, o + 3, none⟩) hb).trans a.c3, a.lo, a.hi⟩

set_option maxHeartbeats 1000000 in
theorem cbuild_walk (b off n cap : Nat) (H : Nat → Int) (B : Nat → Bool) (S G : Nat → Int) (w : World) (hb : b < w.heap.size) (hn : n ≤ 1024) (hin : ∀ i, i < n → AgeAt w b (off + i * 4) (H i) (B i) (S i) (G i)) :
    Calls Yba.prog 25 #[.slice (some ⟨b, off, none⟩) n cap] w fun e w' => e = .returned (.pointer (some ⟨w.heap.size + 1, 0, none⟩)) ∧ CBuilt w w' n n H B S G := by
  obtain ⟨i0, hi0, hz0, hz1, hz2⟩ := info_parts info25
  have hmk := run_make (P := Yba.prog) w 99 25 i0 _ Yba.underlying99 hi0 hz0 .i64 .i64 (n : Int) (n : Int) (by omega) (by omega) (by rw [hz2]; omega) (by omega)
  rw [hz1, Int.toNat_natCast] at hmk
  clear hi0 hz0 hz1 hz2
  have hstart := cstart_built w n H B S G
  go_enter Yba.func25, Yba.ntmps25
  go_wp2_with fail
  change Code.wp _ _ _ _ (cstart w n)
  generalize cstart w n = w2 at *
  clear hmk
  go_loopw [12] (fun x wr => ∃ i : Nat, i ≤ n ∧ x = .int .i64 i ∧ CBuilt w wr n i H B S G) (fun x _ => n - (intOf x).toNat)
  case atStart => exact ⟨0, Nat.zero_le _, rfl, hstart⟩
  case round =>
    obtain ⟨i, hi, rfl, hbt⟩ := hrel
    by_cases hlt : i < n
    · obtain ⟨a0, a1, a2, a3, hlo, hhi⟩ := (hin i hlt).move hb hbt.bel
      have hsl := hbt.sl
      have q0 := hbt.row i hlt 0 (by omega)
      have q1 := hbt.row i hlt 1 (by omega)
      have q2 := hbt.row i hlt 2 (by omega)
      have q3 := hbt.row i hlt 3 (by omega)
      simp only [Nat.add_zero] at q0
      have f0 := hbt.fr (i * 4)
      have f1 := hbt.fr (i * 4 + 1)
      have f2 := hbt.fr (i * 4 + 2)
      have f3 := hbt.fr (i * 4 + 3)
      have fin := hbt.step hlt
      have hh := fun W => horizon_any (H i) W hlo hhi
      have k1 : (0 : Int) ≤ (i : Int) := by omega
      have k2 : (i : Int) < (n : Int) := by omega
      have n1 : ¬ (b = w.heap.size) := by omega
      have n2 : ¬ (w.heap.size = b) := by omega
      clear hbt hin hstart
      go_wp2_with fail
      go_region_held3 (fun w' => w'.cell? ⟨w.heap.size + 1, 1, none⟩ = some (.slice (some ⟨w.heap.size, 0, none⟩) n n) ∧ w'.cell? ⟨b, off + i * 4, none⟩ = some (.int .i64 (H i)) ∧ w'.cell? ⟨b, off + i * 4 + 1, none⟩ = some (.bool (B i)) ∧ w'.cell? ⟨b, off + i * 4 + 2, none⟩ = some (.int .i64 (S i)) ∧ w'.cell? ⟨b, off + i * 4 + 3, none⟩ = some (.int .i64 (G i))) (go_keep)
        (first | (go_at_call 48; refine (hh _).mono ?_; rintro e w' ⟨rfl, rfl⟩))
      go_wp2_with fail
      go_roundw
      case rel => exact ⟨i + 1, by omega, by go_num, fin⟩
      case measure => simp [intOf]; omega
    · obtain rfl : i = n := by omega
      go_wp2_with fail
      go_ret
      exact ⟨rfl, hbt⟩
end Go.Proofs.Ybulkaqom

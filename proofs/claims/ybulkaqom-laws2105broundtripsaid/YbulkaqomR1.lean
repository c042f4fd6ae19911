/-
  buckets that hold no key: find, renew, take.
-/
import Derived.Test.YbulkaqomG2
namespace Go.Proofs.Ybulkaqom
open Go.RowKit Go.ChangeMaps

/-- The full ticks at block B hold no key. -/
structure Bare (w : World) (B : Nat) : Prop where
  c5 : w.cell? ⟨B, 5, none⟩ = some (.map none)
  c6 : w.cell? ⟨B, 6, none⟩ = some (.map none)
  c7 : w.cell? ⟨B, 7, none⟩ = some (.map none)
  c8 : w.cell? ⟨B, 8, none⟩ = some (.map none)
  c9 : w.cell? ⟨B, 9, none⟩ = some (.bool false)
  c10 : w.cell? ⟨B, 10, none⟩ = some (.int .u64 0)
  c11 : w.cell? ⟨B, 11, none⟩ = some (.int .u64 0)
  z5 : w.frozen? ⟨B, 5, none⟩ = false
  z10 : w.frozen? ⟨B, 10, none⟩ = false
  z11 : w.frozen? ⟨B, 11, none⟩ = false

theorem Bare.below {w w' : World} {B : Nat} (h : Bare w B) (k : Below w.heap.size w w') : Bare w' B := by
  have hl : B < w.heap.size := lt_of_cell h.c5
  exact ⟨cell_below k h.c5, cell_below k h.c6, cell_below k h.c7, cell_below k h.c8, cell_below k h.c9, cell_below k h.c10, cell_below k h.c11, (k.frozen (p := ⟨B, 5, none⟩) hl).trans h.z5, (k.frozen (p := ⟨B, 10, none⟩) hl).trans h.z10, (k.frozen (p := ⟨B, 11, none⟩) hl).trans h.z11⟩

set_option maxRecDepth 100000 in
set_option maxHeartbeats 800000 in
theorem ffind_bare (B : Nat) (w : World) (h : Bare w B) :
    Calls Yba.prog 18 #[.pointer (some ⟨B, 5, none⟩), .string kk] w fun e w' => e = .returned (.tuple #[U 0, .bool false, .bool false]) ∧ Below w.heap.size w w' := by
  have hbA : Below w.heap.size w (w.alloc (.cells #[.int .u64 0, .int .u64 0] 46)) := (Below.refl w.heap.size w).alloc (Nat.le_refl _) _
  have hA := h.below hbA
  have HI := findI_none B _ hA.c5 hA.c6
  have HL := lenU_none B _ hA.c7 hA.c8
  have hl : B < w.heap.size := lt_of_cell h.c5
  have hU : U 0 = .agg #[.int .u64 0, .int .u64 0] := rfl
  rw [hU]
  clear hU h hA
  go_enter Yba.func18, Yba.ntmps18
  go_wp2_with fail
  refine HI.mono ?_
  rintro e w1 ⟨rfl, hw1⟩
  subst w1
  go_wp2_with fail
  refine HL.mono ?_
  rintro e w1 ⟨rfl, q, hw1⟩
  subst w1
  clear HI HL
  go_wp2_with fail
  simp [bodyPost, results, Yba.results18, go_sem, cell_set]
  exact ((below_drewN hbA q).setCell (Nat.le_refl _) _).setCell (Nat.le_refl _) _

def AtFull (B : Nat) : Nat → Nat → Prop := fun k o => k = B ∧ (o = 5 ∨ o = 10 ∨ o = 11)

/-- The base has been set. -/
structure Based (w : World) (B bx : Nat) (fh fl : Int) : Prop where
  c5 : w.cell? ⟨B, 5, none⟩ = some (.map none)
  c6 : w.cell? ⟨B, 6, none⟩ = some (.map none)
  c7 : w.cell? ⟨B, 7, none⟩ = some (.map none)
  c8 : w.cell? ⟨B, 8, none⟩ = some (.map none)
  c9 : w.cell? ⟨B, 9, none⟩ = some (.bool false)
  c10 : w.cell? ⟨B, 10, none⟩ = some (.int .u64 fh)
  c11 : w.cell? ⟨B, 11, none⟩ = some (.int .u64 fl)
  z5 : w.frozen? ⟨B, 5, none⟩ = false
  x0 : w.cell? ⟨bx, 0, none⟩ = some (.int .u64 fh)
  x1 : w.cell? ⟨bx, 1, none⟩ = some (.int .u64 fl)

theorem Bare.based {w : World} {B : Nat} (h : Bare w B) (fh fl : Int) :
    Based (((w.setCell ⟨B, 10, none⟩ (.int .u64 fh)).setCell ⟨B, 11, none⟩ (.int .u64 fl)).alloc (.cells #[.int .u64 fh, .int .u64 fl] 46)) B w.heap.size fh fl ∧
    Kept (AtFull B) w (((w.setCell ⟨B, 10, none⟩ (.int .u64 fh)).setCell ⟨B, 11, none⟩ (.int .u64 fl)).alloc (.cells #[.int .u64 fh, .int .u64 fl] 46)) := by
  have hl : B < w.heap.size := lt_of_cell h.c5
  have hk : Kept (AtFull B) w ((w.setCell ⟨B, 10, none⟩ (.int .u64 fh)).setCell ⟨B, 11, none⟩ (.int .u64 fl)) := ((Kept.refl (AtFull B) w).setCell (.inl ⟨rfl, .inr (.inl rfl)⟩) _).setCell (.inl ⟨rfl, .inr (.inr rfl)⟩) _
  have e10 : ((w.setCell ⟨B, 10, none⟩ (.int .u64 fh)).setCell ⟨B, 11, none⟩ (.int .u64 fl)).cell? ⟨B, 10, none⟩ = some (.int .u64 fh) := by simp [cell_set, h.c10]
  have e11 : ((w.setCell ⟨B, 10, none⟩ (.int .u64 fh)).setCell ⟨B, 11, none⟩ (.int .u64 fl)).cell? ⟨B, 11, none⟩ = some (.int .u64 fl) := by simp [cell_set, h.c11]
  have e5 : ((w.setCell ⟨B, 10, none⟩ (.int .u64 fh)).setCell ⟨B, 11, none⟩ (.int .u64 fl)).cell? ⟨B, 5, none⟩ = some (.map none) := by simp [cell_set, h.c5]
  have hsz : ((w.setCell ⟨B, 10, none⟩ (.int .u64 fh)).setCell ⟨B, 11, none⟩ (.int .u64 fl)).heap.size = w.heap.size := by simp [World.setCell]
  generalize (w.setCell ⟨B, 10, none⟩ (.int .u64 fh)).setCell ⟨B, 11, none⟩ (.int .u64 fl) = w2 at *
  have hb : Below w2.heap.size w2 (w2.alloc (.cells #[.int .u64 fh, .int .u64 fl] 46)) := (Below.refl _ _).alloc (Nat.le_refl _) _
  have hn : ∀ j, j ≠ 5 → j ≠ 10 → j ≠ 11 → ¬ AtFull B B j := fun j a b c x => by rcases x.2 with h | h | h <;> omega
  refine ⟨⟨cell_below hb e5, cell_below hb ((hk.cell B 6 hl (hn 6 (by omega) (by omega) (by omega))).trans h.c6), cell_below hb ((hk.cell B 7 hl (hn 7 (by omega) (by omega) (by omega))).trans h.c7), cell_below hb ((hk.cell B 8 hl (hn 8 (by omega) (by omega) (by omega))).trans h.c8), cell_below hb ((hk.cell B 9 hl (hn 9 (by omega) (by omega) (by omega))).trans h.c9), cell_below hb e10, cell_below hb e11, ?_, ?_, ?_⟩, hk.alloc _⟩
  · exact (hb.frozen (p := ⟨B, 5, none⟩) (by show B < _; omega)).trans ((hk.frozen B 5 hl).trans h.z5)
  · rw [← hsz]; simp [go_sem]
  · rw [← hsz]; simp [go_sem]

theorem Based.below {w w' : World} {B bx : Nat} {fh fl : Int} (h : Based w B bx fh fl) (k : Below w.heap.size w w') : Based w' B bx fh fl := by
  have hl : B < w.heap.size := lt_of_cell h.c5
  exact ⟨cell_below k h.c5, cell_below k h.c6, cell_below k h.c7, cell_below k h.c8, cell_below k h.c9, cell_below k h.c10, cell_below k h.c11, (k.frozen (p := ⟨B, 5, none⟩) hl).trans h.z5, cell_below k h.x0, cell_below k h.x1⟩

set_option maxRecDepth 100000 in
set_option maxHeartbeats 800000 in
theorem frenew_bare (B : Nat) (f : Int) (w : World) (h : Bare w B) (h0 : 0 ≤ f) (h1 : f < 340282366920938463463374607431768211456) :
    Calls Yba.prog 43 #[.pointer (some ⟨B, 5, none⟩), .string kk, U f, .bool false] w fun e w' => e = .returned (.tuple #[]) ∧ ∃ r, w.heap.size ≤ r ∧ Full w' B r false false f f ∧ Kept (AtFull B) w w' := by
  have hl : B < w.heap.size := lt_of_cell h.c5
  have HM := fun w => minus_same f w h0 h1
  have c5 := h.c5
  have c9 := h.c9
  have c10 := h.c10
  have c11 := h.c11
  have z10 := h.z10
  have z11 := h.z11
  have hl0 : ∀ w ty, (Builtin.len_ #[39] ty #[.map none]).run Yba.prog w = .ok (.int .i64 0) w := fun w ty => Maps.len_nil u39 ty
  have HA : Hid (Bare w B) := h
  clear h
  unfold U at *
  have Hfh : ∃ x, x = hiW f := ⟨_, rfl⟩
  have Hfl : ∃ x, x = loW f := ⟨_, rfl⟩
  obtain ⟨fh, hfh⟩ := Hfh
  obtain ⟨fl, hfl⟩ := Hfl
  have HH : Hid (fh = hiW f ∧ fl = loW f) := ⟨hfh, hfl⟩
  rw [← hfh, ← hfl] at HM ⊢
  clear hfh hfl
  go_enter Yba.func43, Yba.ntmps43
  go_upto_region 5 with fail
  obtain ⟨hBs, hkS⟩ := HA.out.based fh fl
  have hbx : B ≠ w.heap.size := by omega
  generalize ((w.setCell ⟨B, 10, none⟩ (.int .u64 fh)).setCell ⟨B, 11, none⟩ (.int .u64 fl)).alloc (.cells #[.int .u64 fh, .int .u64 fl] 46) = wS at *
  have HBs : Hid (Based wS B w.heap.size fh fl) := hBs
  have s10 := hBs.c10
  have s11 := hBs.c11
  have x0 := hBs.x0
  have x1 := hBs.x1
  have hlS : B < wS.heap.size := lt_of_cell s10
  have hlx : w.heap.size < wS.heap.size := lt_of_cell x0
  clear hBs c5 c9 c10 c11 z10 z11 HA
  go_region_with (first | (go_at_call 51; refine (HM _).mono ?_; rintro e w2 ⟨rfl, hb2⟩; replace hb2 := below_undrew hb2))
  all_goals clear HM
  all_goals go_wp2_with fail
  all_goals
    have hB2 := HBs.out.below hb2
    have hk2 := hkS.trans (Kept.of_below hb2)
    have hs2 := hk2.size
    refine (renewI_first_newer B 0 w2 hB2.c5 hB2.z5).mono ?_
    rintro e w3 ⟨rfl, r, hr, hh, hc, hk⟩
    have hn5 : ∀ j, j ≠ 5 → w3.cell? ⟨B, j, none⟩ = w2.cell? ⟨B, j, none⟩ := fun j hj => hk.cell B j (lt_of_cell hB2.c5) (fun x => hj x.2)
    have HG := forget_none B false w3 ((hn5 7 (by decide)).trans hB2.c7) ((hn5 8 (by decide)).trans hB2.c8)
    have HFin : Hid (w.heap.size ≤ r ∧ Full w3 B r false false f f ∧ Kept (AtFull B) w w3) := by
      obtain ⟨e1, e2⟩ := HH.out
      subst e1 e2
      refine ⟨by omega, ⟨hc, (hn5 6 (by decide)).trans hB2.c6, (hn5 7 (by decide)).trans hB2.c7, (hn5 8 (by decide)).trans hB2.c8, (hn5 9 (by decide)).trans hB2.c9, fun _ => (hn5 10 (by decide)).trans hB2.c10, fun _ => (hn5 11 (by decide)).trans hB2.c11, fun _ => ⟨h0, Int.le_refl _, by omega⟩, ?_, h0, h1, by omega⟩, hk2.trans' hk (fun _ _ _ x => ⟨x.1, .inl x.2⟩)⟩
      have e0 : f - f = 0 := by omega
      rw [if_neg (by decide), e0]
      exact hh
    clear hn5 hB2 hk2 hk hh hc hb2 hkS s10 s11 x0 x1 HBs
    go_wp2_with fail
    refine HG.mono ?_
    rintro e w4 ⟨rfl, q, hw4⟩
    subst w4
    clear HG
    go_wp2_with fail
    first | go_end0 | refine bodyPost_ret (results_none rfl _ _ _) rfl ?_
    obtain ⟨f1, f2, f3⟩ := HFin.out
    exact ⟨rfl, r, f1, f2.kept (Kept.drewN (Kept.refl Nothing _) q) (fun _ _ _ x => x) (fun _ x => x), f3.drewN q⟩
end Go.Proofs.Ybulkaqom

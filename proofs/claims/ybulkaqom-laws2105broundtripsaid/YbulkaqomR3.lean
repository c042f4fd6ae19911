/-
  buckets.take, fullTick, hold at one key.
-/
import Derived.Test.YbulkaqomR2
namespace Go.Proofs.Ybulkaqom
open Go.RowKit Go.ChangeMaps

theorem Full.drewN {w : World} {B r : Nat} {wh older : Bool} {base f : Int} (h : Full w B r wh older base f) (q : Nat) : Full (w.drewN q) B r wh older base f :=
  h.kept (Kept.drewN (Kept.refl Nothing _) q) (fun _ _ _ x => x) (fun _ x => x)

/-- The first take of a key. -/
theorem take_bare (B sp pn pu : Nat) (now L T : Int) (w : World) (hB : Bare w B)
    (c14 : w.cell? ⟨B, 14, none⟩ = some (.int .u64 pn)) (c15 : w.cell? ⟨B, 15, none⟩ = some (.int .u64 pu)) (c17 : w.cell? ⟨B, 17, none⟩ = some (.map none)) (c18 : w.cell? ⟨B, 18, none⟩ = some (.map none))
    (hpn : pn < 18446744073709551616) (hpu : pu < 18446744073709551616) (hsp : sp < 18446744073709551616) (hna : -9223372036854775808 ≤ now) (hnb : now ≤ 9223372036854775807)
    (hL : (now + 9223372036854775808) * pn = L) (hT : (sp : Int) * pu = T) (hL0 : 0 ≤ L) (hT0 : 0 ≤ T) (hb : L + T < 340282366920938463463374607431768211456) :
    Calls Yba.prog 22 #[.pointer (some ⟨B, 0, none⟩), .string kk, .int .u64 sp, .int .i64 now] w fun e w' => e = .returned (.tuple #[]) ∧ (∃ r, w.heap.size ≤ r ∧ Full w' B r false false (L + T) (L + T)) ∧ Kept (AtFull B) w w' := by
  refine take_gen B sp pn pu now L 0 T L false (AtFull B) (fun w' => ∃ r, w.heap.size ≤ r ∧ Full w' B r false false (L + T) (L + T)) w c14 c15 c17 c18 hpn hpu hsp hna hnb hL hT hL0 (Int.le_refl _) hT0 (if_neg (by omega)) hb (fun x => by rcases x.2 with h | h | h <;> omega) (fun x => by rcases x.2 with h | h | h <;> omega)
    (fun w' q ⟨r, h1, h2⟩ => ⟨r, h1, h2.drewN q⟩) (fun wx k => ffind_bare B wx (hB.below k)) (fun wx k => ?_)
  refine (frenew_bare B (L + T) wx (hB.below k) (by omega) hb).mono ?_
  rintro e w' ⟨he, r, hr, hF, hk⟩
  exact ⟨he, ⟨r, Nat.le_trans k.size hr, hF⟩, hk⟩

/-- A further take, at a tick that is not past the full tick. -/
theorem take_again (B r sp pn pu : Nat) (now L T base f : Int) (w : World) (hF : Full w B r false false base f)
    (c14 : w.cell? ⟨B, 14, none⟩ = some (.int .u64 pn)) (c15 : w.cell? ⟨B, 15, none⟩ = some (.int .u64 pu)) (c17 : w.cell? ⟨B, 17, none⟩ = some (.map none)) (c18 : w.cell? ⟨B, 18, none⟩ = some (.map none))
    (hpn : pn < 18446744073709551616) (hpu : pu < 18446744073709551616) (hsp : sp < 18446744073709551616) (hna : -9223372036854775808 ≤ now) (hnb : now ≤ 9223372036854775807)
    (hL : (now + 9223372036854775808) * pn = L) (hT : (sp : Int) * pu = T) (hL0 : 0 ≤ L) (hT0 : 0 ≤ T) (hLf : L ≤ f) (hb : f + T < 340282366920938463463374607431768211456) (hd : f + T - base < 9223372036854775808) :
    Calls Yba.prog 22 #[.pointer (some ⟨B, 0, none⟩), .string kk, .int .u64 sp, .int .i64 now] w fun e w' => e = .returned (.tuple #[]) ∧ Full w' B r false false base (f + T) ∧ Kept (Blk r) w w' := by
  have hnb2 := hF.nb rfl
  refine take_gen B sp pn pu now L f T f true (Blk r) (fun w' => Full w' B r false false base (f + T)) w c14 c15 c17 c18 hpn hpu hsp hna hnb hL hT hL0 hF.f0 hT0 (by split <;> omega) hb (fun x => hF.ne (Eq.symm x)) (fun x => hF.ne (Eq.symm x))
    (fun w' q h => h.drewN q) (fun wx k => ffind_any B r false false base f wx (hF.below k)) (fun wx k => frenew_again B r base f (f + T) wx (hF.below k) (by omega) hb ⟨by omega, hd⟩)

set_option maxRecDepth 100000 in
set_option maxHeartbeats 400000 in
theorem ftick_any (B r : Nat) (wh older : Bool) (base f : Int) (w : World) (h : Full w B r wh older base f) :
    Calls Yba.prog 23 #[.pointer (some ⟨B, 0, none⟩), .string kk] w fun e w' => e = .returned (U f) ∧ Below w.heap.size w w' := by
  have hl := h.ltB
  have hbA : Below w.heap.size w (w.alloc (.cells #[.int .u64 0, .int .u64 0] 46)) := (Below.refl w.heap.size w).alloc (Nat.le_refl _) _
  have HF := ffind_any B r wh older base f _ (h.below hbA)
  clear h
  unfold U at *
  generalize hiW f = fh at *
  generalize loW f = fl at *
  go_enter Yba.func23, Yba.ntmps23
  go_wp2_with fail
  refine HF.mono ?_
  rintro e w1 ⟨rfl, hb1⟩
  obtain ⟨c0, c1, z0, z1, hl1, hbw⟩ := fresh2 hb1
  clear HF hb1 hbA
  go_wp2_with fail
  have kS : Below w.heap.size w ((w1.setCell ⟨w.heap.size, 0, none⟩ (.int .u64 fh)).setCell ⟨w.heap.size, 1, none⟩ (.int .u64 fl)) := (hbw.setCell (Nat.le_refl _) _).setCell (Nat.le_refl _) _
  have y0 : ((w1.setCell ⟨w.heap.size, 0, none⟩ (.int .u64 fh)).setCell ⟨w.heap.size, 1, none⟩ (.int .u64 fl)).cell? ⟨w.heap.size, 0, none⟩ = some (.int .u64 fh) := by simp [cell_set, c0]
  have y1 : ((w1.setCell ⟨w.heap.size, 0, none⟩ (.int .u64 fh)).setCell ⟨w.heap.size, 1, none⟩ (.int .u64 fl)).cell? ⟨w.heap.size, 1, none⟩ = some (.int .u64 fl) := by simp [cell_set, c1]
  generalize (w1.setCell ⟨w.heap.size, 0, none⟩ (.int .u64 fh)).setCell ⟨w.heap.size, 1, none⟩ (.int .u64 fl) = wS at *
  have hbS := below_alloc_self (.cells #[.int .u64 fh, .int .u64 fl] 46) (Below.refl wS.heap.size wS)
  replace y0 := cell_below hbS y0
  replace y1 := cell_below hbS y1
  replace kS := kS.trans (hbS.mono kS.size)
  generalize wS.alloc (.cells #[.int .u64 fh, .int .u64 fl] 46) = wF at *
  simp [bodyPost, results, Yba.results23, go_sem, y0, y1]
  exact kS

set_option maxHeartbeats 400000 in
theorem hget_none (B : Nat) (w : World) (c17 : w.cell? ⟨B, 17, none⟩ = some (.map none)) (c18 : w.cell? ⟨B, 18, none⟩ = some (.map none)) :
    Calls Yba.prog 46 #[.pointer (some ⟨B, 17, none⟩), .string kk] w fun e w' => e = .returned (.tuple #[.pointer none, .bool false]) ∧ w' = w := by
  have HF := findH_none B w c17 c18
  go_enter Yba.func46, Yba.ntmps46
  go_wp2_with fail
  refine HF.mono ?_
  rintro e w1 ⟨rfl, hw1⟩
  subst w1
  clear HF
  go_wp2_with fail
  simp [bodyPost, results, Yba.results46, go_sem]

end Go.Proofs.Ybulkaqom

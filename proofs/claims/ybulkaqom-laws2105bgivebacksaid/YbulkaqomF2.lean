/-
  fullTicks, one key: find, keep, len.
-/
import Derived.Test.YbulkaqomF
namespace Go.Proofs.Ybulkaqom
open Go.RowKit Go.ChangeMaps

theorem below_undrew {B : Nat} {w w' : World} {q : Nat} (h : Below B (w.drewN q) w') : Below B w w' := ⟨h.os, h.tape, h.output, h.size, h.block⟩

set_option maxRecDepth 100000 in
set_option maxHeartbeats 800000 in
theorem forget_none (B : Nat) (ol : Bool) (w : World) (c7 : w.cell? ⟨B, 7, none⟩ = some (.map none)) (c8 : w.cell? ⟨B, 8, none⟩ = some (.map none)) :
    Calls Yba.prog 52 #[.pointer (some ⟨B, 5, none⟩), .string kk, .bool ol] w fun e w' => e = .returned (.tuple #[]) ∧ ∃ q, w' = w.drewN q := by
  have HL := lenU_none B w c7 c8
  go_enter Yba.func52, Yba.ntmps52
  go_wp2_with fail
  refine HL.mono ?_
  rintro e w1 ⟨rfl, q, hw1⟩
  subst w1
  go_wp2_with fail
  go_end0
  exact ⟨rfl, q, rfl⟩

set_option maxRecDepth 100000 in
set_option maxHeartbeats 800000 in
theorem fkeep_near_newer (B r : Nat) (base f f' : Int) (w : World) (h : Full w B r false false base f) (h0 : 0 ≤ f') (h1 : f' < 340282366920938463463374607431768211456) (hn : false = false → base ≤ f' ∧ f' - base < 9223372036854775808) :
    Calls Yba.prog 35 #[.pointer (some ⟨B, 5, none⟩), .string kk, U f', .bool false] w fun e w' => e = .returned (.tuple #[]) ∧ Full w' B r false false base f' ∧ Kept (Blk r) w w' := by
  have hbA : Below w.heap.size w (w.alloc (.cells #[.int .u64 (hiW f'), .int .u64 (loW f')] 46)) := (Below.refl w.heap.size w).alloc (Nat.le_refl _) _
  have hA := h.below hbA
  have hkA : Kept (Blk r) w (w.alloc (.cells #[.int .u64 (hiW f'), .int .u64 (loW f')] 46)) := Kept.of_below hbA
  have hFin : ∀ w', Kept (Blk r) w w' → Has w' r (if false then U f' else .int .i64 (f' - base)) → Full w' B r false false base f' := fun w' k hh => h.set k hh h0 h1 hn
  have hsz := h.ltB
  have HB : ∀ wx, (∃ q, wx = (w.alloc (.cells #[.int .u64 (hiW f'), .int .u64 (loW f')] 46)).drewN q) → _ := fun wx ⟨q, hq⟩ => base_newer B base wx (by rw [hq]; exact hA.cb0 rfl) (by rw [hq]; exact hA.cb1 rfl)
  have hnb := h.nb rfl
  have HM := fun w => minus_any f' base w hnb.1 (hn rfl).1 h1 (hn rfl).2
  have c9 := h.c9
  have HFull : Hid (Full (w.alloc (.cells #[.int .u64 (hiW f'), .int .u64 (loW f')] 46)) B r false false base f) := hA
  clear hA h hnb
  unfold U at *
  generalize hiW f' = fh at *
  generalize loW f' = fl at *
  generalize hiW base = bh at *
  generalize loW base = bl at *
  go_enter Yba.func35, Yba.ntmps35
  go_wp2_with fail
  go_region_with (first | (go_at_call 38; refine (HB _ ⟨1, rfl⟩).mono ?_; rintro e w1 ⟨rfl, hb1⟩; replace hb1 := below_undrew hb1; obtain ⟨d0, d1, -, -, -, -⟩ := fresh2 hb1) | (go_at_call 51; refine (HM _).mono ?_; rintro e w2 ⟨rfl, hb2⟩))
  all_goals clear HB HM
  all_goals go_wp2_with fail
  all_goals
    have hbx := hb1.trans (hb2.mono hb1.size)
    have hF2 := HFull.out.below hbx
    have hkx := hkA.trans' (Kept.of_below (T := Blk r) hbx) (fun _ _ _ x => x)
    refine (keepI_again_newer B r (f' - base) _ w2 hF2.c5 hF2.has).mono ?_
    rintro e w3 ⟨rfl, hh, hk⟩
    have hk2 := hkx.trans hk
    have c7 := (hk.cell B 7 hF2.ltB (fun x => hF2.ne (Eq.symm x))).trans hF2.c7
    have c8 := (hk.cell B 8 hF2.ltB (fun x => hF2.ne (Eq.symm x))).trans hF2.c8
    have HG := forget_none B false w3 c7 c8
    clear hb1 hb2 d0 d1 hbx hF2 hkx hk c7 c8 hkA hbA HFull c9 hsz
    go_wp2_with fail
    refine HG.mono ?_
    rintro e w4 ⟨rfl, q, hw4⟩
    subst w4
    clear HG
    go_wp2_with fail
    first | go_end0 | refine bodyPost_ret (results_none rfl _ _ _) rfl ?_
    exact ⟨rfl, hFin _ (hk2.drewN q) hh, hk2.drewN q⟩

set_option maxRecDepth 100000 in
set_option maxHeartbeats 800000 in
theorem fkeep_near_older (B r : Nat) (base f f' : Int) (w : World) (h : Full w B r false true base f) (h0 : 0 ≤ f') (h1 : f' < 340282366920938463463374607431768211456) (hn : false = false → base ≤ f' ∧ f' - base < 9223372036854775808) :
    Calls Yba.prog 35 #[.pointer (some ⟨B, 5, none⟩), .string kk, U f', .bool true] w fun e w' => e = .returned (.tuple #[]) ∧ Full w' B r false true base f' ∧ Kept (Blk r) w w' := by
  have hbA : Below w.heap.size w (w.alloc (.cells #[.int .u64 (hiW f'), .int .u64 (loW f')] 46)) := (Below.refl w.heap.size w).alloc (Nat.le_refl _) _
  have hA := h.below hbA
  have hkA : Kept (Blk r) w (w.alloc (.cells #[.int .u64 (hiW f'), .int .u64 (loW f')] 46)) := Kept.of_below hbA
  have hFin : ∀ w', Kept (Blk r) w w' → Has w' r (if false then U f' else .int .i64 (f' - base)) → Full w' B r false true base f' := fun w' k hh => h.set k hh h0 h1 hn
  have hsz := h.ltB
  have HB : ∀ wx, (∃ q, wx = (w.alloc (.cells #[.int .u64 (hiW f'), .int .u64 (loW f')] 46)).drewN q) → _ := fun wx ⟨q, hq⟩ => base_older B base wx (by rw [hq]; exact hA.cb0 rfl) (by rw [hq]; exact hA.cb1 rfl)
  have hnb := h.nb rfl
  have HM := fun w => minus_any f' base w hnb.1 (hn rfl).1 h1 (hn rfl).2
  have c9 := h.c9
  have HFull : Hid (Full (w.alloc (.cells #[.int .u64 (hiW f'), .int .u64 (loW f')] 46)) B r false true base f) := hA
  clear hA h hnb
  unfold U at *
  generalize hiW f' = fh at *
  generalize loW f' = fl at *
  generalize hiW base = bh at *
  generalize loW base = bl at *
  go_enter Yba.func35, Yba.ntmps35
  go_wp2_with fail
  go_region_with (first | (go_at_call 38; refine (HB _ ⟨1, rfl⟩).mono ?_; rintro e w1 ⟨rfl, hb1⟩; replace hb1 := below_undrew hb1; obtain ⟨d0, d1, -, -, -, -⟩ := fresh2 hb1) | (go_at_call 51; refine (HM _).mono ?_; rintro e w2 ⟨rfl, hb2⟩))
  all_goals clear HB HM
  all_goals go_wp2_with fail
  all_goals
    have hbx := hb1.trans (hb2.mono hb1.size)
    have hF2 := HFull.out.below hbx
    have hkx := hkA.trans' (Kept.of_below (T := Blk r) hbx) (fun _ _ _ x => x)
    refine (keepI_again_older B r (f' - base) _ w2 hF2.c6 hF2.has).mono ?_
    rintro e w3 ⟨rfl, hh, hk⟩
    have hk2 := hkx.trans hk
    have c7 := (hk.cell B 7 hF2.ltB (fun x => hF2.ne (Eq.symm x))).trans hF2.c7
    have c8 := (hk.cell B 8 hF2.ltB (fun x => hF2.ne (Eq.symm x))).trans hF2.c8
    have HG := forget_none B true w3 c7 c8
    clear hb1 hb2 d0 d1 hbx hF2 hkx hk c7 c8 hkA hbA HFull c9 hsz
    go_wp2_with fail
    refine HG.mono ?_
    rintro e w4 ⟨rfl, q, hw4⟩
    subst w4
    clear HG
    go_wp2_with fail
    first | go_end0 | refine bodyPost_ret (results_none rfl _ _ _) rfl ?_
    exact ⟨rfl, hFin _ (hk2.drewN q) hh, hk2.drewN q⟩

set_option maxRecDepth 100000 in
set_option maxHeartbeats 800000 in
theorem fkeep_far_newer (B r : Nat) (base f f' : Int) (w : World) (h : Full w B r true false base f) (h0 : 0 ≤ f') (h1 : f' < 340282366920938463463374607431768211456) (hn : true = false → base ≤ f' ∧ f' - base < 9223372036854775808) :
    Calls Yba.prog 35 #[.pointer (some ⟨B, 5, none⟩), .string kk, U f', .bool false] w fun e w' => e = .returned (.tuple #[]) ∧ Full w' B r true false base f' ∧ Kept (Blk r) w w' := by
  have hbA : Below w.heap.size w (w.alloc (.cells #[.int .u64 (hiW f'), .int .u64 (loW f')] 46)) := (Below.refl w.heap.size w).alloc (Nat.le_refl _) _
  have hA := h.below hbA
  have hkA : Kept (Blk r) w (w.alloc (.cells #[.int .u64 (hiW f'), .int .u64 (loW f')] 46)) := Kept.of_below hbA
  have hFin : ∀ w', Kept (Blk r) w w' → Has w' r (if true then U f' else .int .i64 (f' - base)) → Full w' B r true false base f' := fun w' k hh => h.set k hh h0 h1 hn
  have hsz := h.ltB
  have HK : ∀ wx, (∃ q, wx = (w.alloc (.cells #[.int .u64 (hiW f'), .int .u64 (loW f')] 46)).drewN q) → _ := fun wx ⟨q, hq⟩ => keepU_again_newer B r (hiW f') (loW f') (U f) wx (by rw [hq]; exact hA.c7) (by rw [hq]; exact hA.has)
  have c9 := h.c9
  clear hA h
  unfold U at *
  generalize hiW f' = fh at *
  generalize loW f' = fl at *
  go_enter Yba.func35, Yba.ntmps35
  go_wp2_with fail
  go_region_with (first | (go_at_call 14; refine (HK _ ⟨1, rfl⟩).mono ?_; rintro e w1 ⟨rfl, hh, hk⟩))
  all_goals go_wp2_with fail
  all_goals first | go_end0 | refine bodyPost_ret (results_none rfl _ _ _) rfl ?_
  all_goals
    have hk2 : Kept (Blk r) w w1 := hkA.trans' (Kept.drewN (Kept.refl _ _) 1 |>.trans hk) (fun _ _ _ x => x)
    exact ⟨rfl, hFin _ hk2 hh, hk2⟩

set_option maxRecDepth 100000 in
set_option maxHeartbeats 800000 in
theorem fkeep_far_older (B r : Nat) (base f f' : Int) (w : World) (h : Full w B r true true base f) (h0 : 0 ≤ f') (h1 : f' < 340282366920938463463374607431768211456) (hn : true = false → base ≤ f' ∧ f' - base < 9223372036854775808) :
    Calls Yba.prog 35 #[.pointer (some ⟨B, 5, none⟩), .string kk, U f', .bool true] w fun e w' => e = .returned (.tuple #[]) ∧ Full w' B r true true base f' ∧ Kept (Blk r) w w' := by
  have hbA : Below w.heap.size w (w.alloc (.cells #[.int .u64 (hiW f'), .int .u64 (loW f')] 46)) := (Below.refl w.heap.size w).alloc (Nat.le_refl _) _
  have hA := h.below hbA
  have hkA : Kept (Blk r) w (w.alloc (.cells #[.int .u64 (hiW f'), .int .u64 (loW f')] 46)) := Kept.of_below hbA
  have hFin : ∀ w', Kept (Blk r) w w' → Has w' r (if true then U f' else .int .i64 (f' - base)) → Full w' B r true true base f' := fun w' k hh => h.set k hh h0 h1 hn
  have hsz := h.ltB
  have HK : ∀ wx, (∃ q, wx = (w.alloc (.cells #[.int .u64 (hiW f'), .int .u64 (loW f')] 46)).drewN q) → _ := fun wx ⟨q, hq⟩ => keepU_again_older B r (hiW f') (loW f') (U f) wx (by rw [hq]; exact hA.c8) (by rw [hq]; exact hA.has)
  have c9 := h.c9
  clear hA h
  unfold U at *
  generalize hiW f' = fh at *
  generalize loW f' = fl at *
  go_enter Yba.func35, Yba.ntmps35
  go_wp2_with fail
  go_region_with (first | (go_at_call 14; refine (HK _ ⟨1, rfl⟩).mono ?_; rintro e w1 ⟨rfl, hh, hk⟩))
  all_goals go_wp2_with fail
  all_goals first | go_end0 | refine bodyPost_ret (results_none rfl _ _ _) rfl ?_
  all_goals
    have hk2 : Kept (Blk r) w w1 := hkA.trans' (Kept.drewN (Kept.refl _ _) 1 |>.trans hk) (fun _ _ _ x => x)
    exact ⟨rfl, hFin _ hk2 hh, hk2⟩

end Go.Proofs.Ybulkaqom

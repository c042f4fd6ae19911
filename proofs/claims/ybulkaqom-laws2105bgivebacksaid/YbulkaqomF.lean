/-
  fullTicks, one key: find, keep, len.
-/
import Derived.Test.YbulkaqomK2
namespace Go.Proofs.Ybulkaqom
open Go.RowKit Go.ChangeMaps

theorem has_lt {w : World} {r : Nat} {v : Value} (h : Has w r v) : r < w.heap.size := by
  obtain ⟨b, c, hm⟩ := h
  rcases Nat.lt_or_ge r w.heap.size with h | h
  · exact h
  · rw [Array.getElem?_eq_none h] at hm
    cases hm
theorem emp_lt {w : World} {r : Nat} (h : Emp w r) : r < w.heap.size := by
  obtain ⟨c, hm⟩ := h
  rcases Nat.lt_or_ge r w.heap.size with h | h
  · exact h
  · rw [Array.getElem?_eq_none h] at hm
    cases hm
theorem Has.kept {T : Nat → Nat → Prop} {w w' : World} {r : Nat} {v : Value} (h : Has w r v) (k : Kept T w w') (hT : ∀ o, ¬ T r o) : Has w' r v := by
  have hl := has_lt h
  obtain ⟨b, c, hm⟩ := h
  exact ⟨b, c, (k.block r hl hT).trans hm⟩
theorem Emp.kept {T : Nat → Nat → Prop} {w w' : World} {r : Nat} (h : Emp w r) (k : Kept T w w') (hT : ∀ o, ¬ T r o) : Emp w' r := by
  have hl := emp_lt h
  obtain ⟨c, hm⟩ := h
  exact ⟨c, (k.block r hl hT).trans hm⟩
theorem has_len {w : World} {r : Nat} {v : Value} (h : Has w r v) : ∃ es c, w.heap[r]? = some (.map es c) ∧ es.size = 1 := by
  obtain ⟨b, c, hm⟩ := h
  exact ⟨_, c, hm, rfl⟩
theorem emp_len {w : World} {r : Nat} (h : Emp w r) : ∃ es c, w.heap[r]? = some (.map es c) ∧ es.size = 0 := by
  obtain ⟨c, hm⟩ := h
  exact ⟨_, c, hm, rfl⟩

/-- The full ticks of a buckets at block B, whose one map is block r. -/
structure Full (w : World) (B r : Nat) (wh older : Bool) (base f : Int) : Prop where
  c5 : w.cell? ⟨B, 5, none⟩ = some (.map (if wh || older then none else some r))
  c6 : w.cell? ⟨B, 6, none⟩ = some (.map (if !wh && older then some r else none))
  c7 : w.cell? ⟨B, 7, none⟩ = some (.map (if wh && !older then some r else none))
  c8 : w.cell? ⟨B, 8, none⟩ = some (.map (if wh && older then some r else none))
  c9 : w.cell? ⟨B, 9, none⟩ = some (.bool wh)
  cb0 : wh = false → w.cell? ⟨B, if older then 12 else 10, none⟩ = some (.int .u64 (hiW base))
  cb1 : wh = false → w.cell? ⟨B, if older then 13 else 11, none⟩ = some (.int .u64 (loW base))
  nb : wh = false → 0 ≤ base ∧ base ≤ f ∧ f - base < 9223372036854775808
  has : Has w r (if wh then U f else .int .i64 (f - base))
  f0 : 0 ≤ f
  f1 : f < 340282366920938463463374607431768211456
  ne : r ≠ B

theorem Full.ltB {w : World} {B r : Nat} {wh older : Bool} {base f : Int} (h : Full w B r wh older base f) : B < w.heap.size := lt_of_cell h.c9

theorem Full.kept {T : Nat → Nat → Prop} {w w' : World} {B r : Nat} {wh older : Bool} {base f : Int} (h : Full w B r wh older base f) (k : Kept T w w') (hB : ∀ o, 5 ≤ o → o ≤ 13 → ¬ T B o) (hr : ∀ o, ¬ T r o) : Full w' B r wh older base f := by
  have hl := h.ltB
  refine ⟨(k.cell B 5 hl (hB 5 (by omega) (by omega))).trans h.c5, (k.cell B 6 hl (hB 6 (by omega) (by omega))).trans h.c6, (k.cell B 7 hl (hB 7 (by omega) (by omega))).trans h.c7, (k.cell B 8 hl (hB 8 (by omega) (by omega))).trans h.c8, (k.cell B 9 hl (hB 9 (by omega) (by omega))).trans h.c9,
    fun e => (k.cell B _ hl (hB _ ?_ ?_)).trans (h.cb0 e), fun e => (k.cell B _ hl (hB _ ?_ ?_)).trans (h.cb1 e), h.nb, h.has.kept k hr, h.f0, h.f1, h.ne⟩ <;> split <;> omega

def Nothing : Nat → Nat → Prop := fun _ _ => False
theorem Full.below {w w' : World} {B r : Nat} {wh older : Bool} {base f : Int} (h : Full w B r wh older base f) (k : Below w.heap.size w w') : Full w' B r wh older base f :=
  h.kept (Kept.of_below (T := Nothing) k) (fun _ _ _ x => x) (fun _ x => x)

/-- What has been set anew in its map. -/
theorem Full.set {w w' : World} {B r : Nat} {wh older : Bool} {base f : Int} (h : Full w B r wh older base f) (k : Kept (Blk r) w w') {f' : Int} (hh : Has w' r (if wh then U f' else .int .i64 (f' - base))) (h0 : 0 ≤ f') (h1 : f' < 340282366920938463463374607431768211456) (hnb : wh = false → base ≤ f' ∧ f' - base < 9223372036854775808) : Full w' B r wh older base f' := by
  have hl := h.ltB
  have hn : ∀ o, ¬ Blk r B o := fun o x => h.ne (Eq.symm x)
  exact ⟨(k.cell B 5 hl (hn _)).trans h.c5, (k.cell B 6 hl (hn _)).trans h.c6, (k.cell B 7 hl (hn _)).trans h.c7, (k.cell B 8 hl (hn _)).trans h.c8, (k.cell B 9 hl (hn _)).trans h.c9,
    fun e => (k.cell B _ hl (hn _)).trans (h.cb0 e), fun e => (k.cell B _ hl (hn _)).trans (h.cb1 e), fun e => ⟨(h.nb e).1, (hnb e).1, (hnb e).2⟩, hh, h0, h1, h.ne⟩

set_option maxRecDepth 100000 in
set_option maxHeartbeats 800000 in
theorem ffind_near_newer (B r : Nat) (base f : Int) (w : World) (h : Full w B r false false base f) :
    Calls Yba.prog 18 #[.pointer (some ⟨B, 5, none⟩), .string kk] w fun e w' => e = .returned (.tuple #[U f, .bool false, .bool true]) ∧ Below w.heap.size w w' := by
  have hbA : Below w.heap.size w (w.alloc (.cells #[.int .u64 0, .int .u64 0] 46)) := (Below.refl w.heap.size w).alloc (Nat.le_refl _) _
  have hA := h.below hbA
  have HI := findI_newer B r (f - base) _ hA.c5 hA.has
  have HB := base_newer B base _ (hA.cb0 rfl) (hA.cb1 rfl)
  have hnb := h.nb rfl
  have hf0 := h.f0
  have hf1 := h.f1
  have HP := fun w => plus_any base (f - base) w (by omega) (by omega) (by omega) (by omega)
  have e : base + (f - base) = f := by omega
  rw [e] at HP
  clear e hA h hnb hf0 hf1
  unfold U at *
  generalize hiW base = bh at *
  generalize loW base = bl at *
  generalize hiW f = fh at *
  generalize loW f = fl at *
  generalize f - base = off at *
  go_enter Yba.func18, Yba.ntmps18
  go_wp2_with fail
  refine HI.mono ?_
  rintro e w1 ⟨rfl, hw1⟩
  subst w1
  go_wp2_with fail
  refine HB.mono ?_
  rintro e w1 ⟨rfl, hb1⟩
  go_wp2_with fail
  refine (HP _).mono ?_
  rintro e w2 ⟨rfl, hb2⟩
  obtain ⟨c0, c1, z0, z1, hl1, hbw⟩ := fresh2 (hb1.trans (hb2.mono hb1.size))
  clear HI HB HP hb1 hb2 hbA
  go_wp2_with fail
  simp [bodyPost, results, Yba.results18, go_sem, cell_set, c0, c1]
  exact (hbw.setCell (Nat.le_refl _) _).setCell (Nat.le_refl _) _

set_option maxRecDepth 100000 in
set_option maxHeartbeats 800000 in
theorem flen_near_newer (B r : Nat) (base f : Int) (w : World) (h : Full w B r false false base f) :
    Calls Yba.prog 19 #[.pointer (some ⟨B, 5, none⟩)] w fun e w' => e = .returned (.int .i64 1) ∧ ∃ q, w' = w.drewN q := by
  have HI := fun q => lenI_newer B r 1 (w.drewN q) h.c5 h.c6 (has_len (w := w.drewN q) h.has) (by omega)
  have HU := fun q => lenU_none B (w.drewN q) h.c7 h.c8
  clear h
  go_enter Yba.func19, Yba.ntmps19
  go_wp2_with fail
  go_quiet (first | (go_at_call 42; exact Calls.quiet_of (HI _)) | (go_at_call 40; exact Calls.quiet_of (HU _)))
  go_wp2_with fail
  go_ret
  exact ⟨rfl, _, rfl⟩

set_option maxRecDepth 100000 in
set_option maxHeartbeats 800000 in
theorem ffind_near_older (B r : Nat) (base f : Int) (w : World) (h : Full w B r false true base f) :
    Calls Yba.prog 18 #[.pointer (some ⟨B, 5, none⟩), .string kk] w fun e w' => e = .returned (.tuple #[U f, .bool true, .bool true]) ∧ Below w.heap.size w w' := by
  have hbA : Below w.heap.size w (w.alloc (.cells #[.int .u64 0, .int .u64 0] 46)) := (Below.refl w.heap.size w).alloc (Nat.le_refl _) _
  have hA := h.below hbA
  have HI := findI_older B r (f - base) _ hA.c5 hA.c6 hA.has
  have HB := base_older B base _ (hA.cb0 rfl) (hA.cb1 rfl)
  have hnb := h.nb rfl
  have hf0 := h.f0
  have hf1 := h.f1
  have HP := fun w => plus_any base (f - base) w (by omega) (by omega) (by omega) (by omega)
  have e : base + (f - base) = f := by omega
  rw [e] at HP
  clear e hA h hnb hf0 hf1
  unfold U at *
  generalize hiW base = bh at *
  generalize loW base = bl at *
  generalize hiW f = fh at *
  generalize loW f = fl at *
  generalize f - base = off at *
  go_enter Yba.func18, Yba.ntmps18
  go_wp2_with fail
  refine HI.mono ?_
  rintro e w1 ⟨rfl, hw1⟩
  subst w1
  go_wp2_with fail
  refine HB.mono ?_
  rintro e w1 ⟨rfl, hb1⟩
  go_wp2_with fail
  refine (HP _).mono ?_
  rintro e w2 ⟨rfl, hb2⟩
  obtain ⟨c0, c1, z0, z1, hl1, hbw⟩ := fresh2 (hb1.trans (hb2.mono hb1.size))
  clear HI HB HP hb1 hb2 hbA
  go_wp2_with fail
  simp [bodyPost, results, Yba.results18, go_sem, cell_set, c0, c1]
  exact (hbw.setCell (Nat.le_refl _) _).setCell (Nat.le_refl _) _

set_option maxRecDepth 100000 in
set_option maxHeartbeats 800000 in
theorem flen_near_older (B r : Nat) (base f : Int) (w : World) (h : Full w B r false true base f) :
    Calls Yba.prog 19 #[.pointer (some ⟨B, 5, none⟩)] w fun e w' => e = .returned (.int .i64 1) ∧ ∃ q, w' = w.drewN q := by
  have HI := fun q => lenI_older B r 1 (w.drewN q) h.c5 h.c6 (has_len (w := w.drewN q) h.has) (by omega)
  have HU := fun q => lenU_none B (w.drewN q) h.c7 h.c8
  clear h
  go_enter Yba.func19, Yba.ntmps19
  go_wp2_with fail
  go_quiet (first | (go_at_call 42; exact Calls.quiet_of (HI _)) | (go_at_call 40; exact Calls.quiet_of (HU _)))
  go_wp2_with fail
  go_ret
  exact ⟨rfl, _, rfl⟩

set_option maxRecDepth 100000 in
set_option maxHeartbeats 800000 in
theorem ffind_far_newer (B r : Nat) (base f : Int) (w : World) (h : Full w B r true false base f) :
    Calls Yba.prog 18 #[.pointer (some ⟨B, 5, none⟩), .string kk] w fun e w' => e = .returned (.tuple #[U f, .bool false, .bool true]) ∧ Below w.heap.size w w' := by
  have hbA : Below w.heap.size w (w.alloc (.cells #[.int .u64 0, .int .u64 0] 46)) := (Below.refl w.heap.size w).alloc (Nat.le_refl _) _
  have hA := h.below hbA
  have HI := findI_none B _ hA.c5 hA.c6
  have HL := lenU_newer B r 1 _ hA.c7 hA.c8 (has_len hA.has) (by omega)
  clear h
  unfold U at *
  have hA' := hA
  have hc7 := hA.c7
  have hc8 := hA.c8
  have hh := hA.has
  unfold U at *
  clear hA' hA
  generalize hiW f = fh at *
  generalize loW f = fl at *
  go_enter Yba.func18, Yba.ntmps18
  go_wp2_with fail
  refine HI.mono ?_
  rintro e w1 ⟨rfl, hw1⟩
  subst w1
  go_wp2_with fail
  refine HL.mono ?_
  rintro e w1 ⟨rfl, q, hw1⟩
  have hb1 : Below (w.alloc (.cells #[.int .u64 0, .int .u64 0] 46)).heap.size (w.alloc (.cells #[.int .u64 0, .int .u64 0] 46)) w1 := by rw [hw1]; exact below_drewN (Below.refl _ _) q
  have k1 : Kept Nothing (w.alloc (.cells #[.int .u64 0, .int .u64 0] 46)) w1 := Kept.of_below hb1
  have HF := findU_newer B r fh fl w1 ((k1.cell B 7 (lt_of_cell hc7) (fun x => x)).trans hc7) (hh.kept k1 (fun _ x => x))
  clear k1 hw1 hc7 hc8 hh HI HL
  go_wp2_with fail
  refine HF.mono ?_
  rintro e w2 ⟨rfl, hb2⟩
  obtain ⟨c0, c1, z0, z1, hl1, hbw⟩ := fresh2 (hb1.trans (hb2.mono hb1.size))
  clear HF hb1 hb2 hbA
  go_wp2_with fail
  simp [bodyPost, results, Yba.results18, go_sem, cell_set, c0, c1]
  exact (hbw.setCell (Nat.le_refl _) _).setCell (Nat.le_refl _) _

set_option maxRecDepth 100000 in
set_option maxHeartbeats 800000 in
theorem flen_far_newer (B r : Nat) (base f : Int) (w : World) (h : Full w B r true false base f) :
    Calls Yba.prog 19 #[.pointer (some ⟨B, 5, none⟩)] w fun e w' => e = .returned (.int .i64 1) ∧ ∃ q, w' = w.drewN q := by
  have HI := fun q => lenI_none B (w.drewN q) h.c5 h.c6
  have HU := fun q => lenU_newer B r 1 (w.drewN q) h.c7 h.c8 (has_len (w := w.drewN q) h.has) (by omega)
  clear h
  go_enter Yba.func19, Yba.ntmps19
  go_wp2_with fail
  go_quiet (first | (go_at_call 42; exact Calls.quiet_of (HI _)) | (go_at_call 40; exact Calls.quiet_of (HU _)))
  go_wp2_with fail
  go_ret
  exact ⟨rfl, _, rfl⟩

set_option maxRecDepth 100000 in
set_option maxHeartbeats 800000 in
theorem ffind_far_older (B r : Nat) (base f : Int) (w : World) (h : Full w B r true true base f) :
    Calls Yba.prog 18 #[.pointer (some ⟨B, 5, none⟩), .string kk] w fun e w' => e = .returned (.tuple #[U f, .bool true, .bool true]) ∧ Below w.heap.size w w' := by
  have hbA : Below w.heap.size w (w.alloc (.cells #[.int .u64 0, .int .u64 0] 46)) := (Below.refl w.heap.size w).alloc (Nat.le_refl _) _
  have hA := h.below hbA
  have HI := findI_none B _ hA.c5 hA.c6
  have HL := lenU_older B r 1 _ hA.c7 hA.c8 (has_len hA.has) (by omega)
  clear h
  unfold U at *
  have hA' := hA
  have hc7 := hA.c7
  have hc8 := hA.c8
  have hh := hA.has
  unfold U at *
  clear hA' hA
  generalize hiW f = fh at *
  generalize loW f = fl at *
  go_enter Yba.func18, Yba.ntmps18
  go_wp2_with fail
  refine HI.mono ?_
  rintro e w1 ⟨rfl, hw1⟩
  subst w1
  go_wp2_with fail
  refine HL.mono ?_
  rintro e w1 ⟨rfl, q, hw1⟩
  have hb1 : Below (w.alloc (.cells #[.int .u64 0, .int .u64 0] 46)).heap.size (w.alloc (.cells #[.int .u64 0, .int .u64 0] 46)) w1 := by rw [hw1]; exact below_drewN (Below.refl _ _) q
  have k1 : Kept Nothing (w.alloc (.cells #[.int .u64 0, .int .u64 0] 46)) w1 := Kept.of_below hb1
  have HF := findU_older B r fh fl w1 ((k1.cell B 7 (lt_of_cell hc7) (fun x => x)).trans hc7) ((k1.cell B 8 (lt_of_cell hc8) (fun x => x)).trans hc8) (hh.kept k1 (fun _ x => x))
  clear k1 hw1 hc7 hc8 hh HI HL
  go_wp2_with fail
  refine HF.mono ?_
  rintro e w2 ⟨rfl, hb2⟩
  obtain ⟨c0, c1, z0, z1, hl1, hbw⟩ := fresh2 (hb1.trans (hb2.mono hb1.size))
  clear HF hb1 hb2 hbA
  go_wp2_with fail
  simp [bodyPost, results, Yba.results18, go_sem, cell_set, c0, c1]
  exact (hbw.setCell (Nat.le_refl _) _).setCell (Nat.le_refl _) _

set_option maxRecDepth 100000 in
set_option maxHeartbeats 800000 in
theorem flen_far_older (B r : Nat) (base f : Int) (w : World) (h : Full w B r true true base f) :
    Calls Yba.prog 19 #[.pointer (some ⟨B, 5, none⟩)] w fun e w' => e = .returned (.int .i64 1) ∧ ∃ q, w' = w.drewN q := by
  have HI := fun q => lenI_none B (w.drewN q) h.c5 h.c6
  have HU := fun q => lenU_older B r 1 (w.drewN q) h.c7 h.c8 (has_len (w := w.drewN q) h.has) (by omega)
  clear h
  go_enter Yba.func19, Yba.ntmps19
  go_wp2_with fail
  go_quiet (first | (go_at_call 42; exact Calls.quiet_of (HI _)) | (go_at_call 40; exact Calls.quiet_of (HU _)))
  go_wp2_with fail
  go_ret
  exact ⟨rfl, _, rfl⟩

end Go.Proofs.Ybulkaqom

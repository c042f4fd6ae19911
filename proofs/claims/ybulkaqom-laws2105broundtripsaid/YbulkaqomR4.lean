/-
  buckets.hold.
-/
import Derived.Test.YbulkaqomR3
namespace Go.Proofs.Ybulkaqom
open Go.RowKit Go.ChangeMaps

/-- A new mark. -/
theorem mark_new (w : World) : Below w.heap.size w (w.alloc (.cells #[.int .i64 0, .int .u64 0, .int .u64 0, .int .i64 0] 62)) ∧
    (∀ j, j < 4 → (∃ u, (w.alloc (.cells #[.int .i64 0, .int .u64 0, .int .u64 0, .int .i64 0] 62)).cell? ⟨w.heap.size, j, none⟩ = some u) ∧ (w.alloc (.cells #[.int .i64 0, .int .u64 0, .int .u64 0, .int .i64 0] 62)).frozen? ⟨w.heap.size, j, none⟩ = false) := by
  refine ⟨(Below.refl w.heap.size w).alloc (Nat.le_refl _) _, fun j hj => ?_⟩
  match j, hj with
  | 0, _ => exact ⟨⟨_, by simp [go_sem]; rfl⟩, by simp [go_sem]⟩
  | 1, _ => exact ⟨⟨_, by simp [go_sem]; rfl⟩, by simp [go_sem]⟩
  | 2, _ => exact ⟨⟨_, by simp [go_sem]; rfl⟩, by simp [go_sem]⟩
  | 3, _ => exact ⟨⟨_, by simp [go_sem]; rfl⟩, by simp [go_sem]⟩

/-- The mark's cells at block m are there, and not frozen. -/
structure MarkAt (w : World) (m : Nat) : Prop where
  u0 : ∃ u, w.cell? ⟨m, 0, none⟩ = some u
  u1 : ∃ u, w.cell? ⟨m, 1, none⟩ = some u
  u2 : ∃ u, w.cell? ⟨m, 2, none⟩ = some u
  u3 : ∃ u, w.cell? ⟨m, 3, none⟩ = some u
  z0 : w.frozen? ⟨m, 0, none⟩ = false
  z1 : w.frozen? ⟨m, 1, none⟩ = false
  z2 : w.frozen? ⟨m, 2, none⟩ = false
  z3 : w.frozen? ⟨m, 3, none⟩ = false

theorem MarkAt.of_new (w : World) : MarkAt (w.alloc (.cells #[.int .i64 0, .int .u64 0, .int .u64 0, .int .i64 0] 62)) w.heap.size := by
  have h := (mark_new w).2
  exact ⟨(h 0 (by omega)).1, (h 1 (by omega)).1, (h 2 (by omega)).1, (h 3 (by omega)).1, (h 0 (by omega)).2, (h 1 (by omega)).2, (h 2 (by omega)).2, (h 3 (by omega)).2⟩

theorem MarkAt.kept {T : Nat → Nat → Prop} {w w' : World} {m : Nat} (h : MarkAt w m) (k : Kept T w w') (hT : ∀ o, ¬ T m o) : MarkAt w' m := by
  have hl : m < w.heap.size := by obtain ⟨u, hu⟩ := h.u0; exact lt_of_cell hu
  have hc : ∀ j, (∃ u, w.cell? ⟨m, j, none⟩ = some u) → ∃ u, w'.cell? ⟨m, j, none⟩ = some u := fun j ⟨u, hu⟩ => ⟨u, (k.cell m j hl (hT j)).trans hu⟩
  exact ⟨hc 0 h.u0, hc 1 h.u1, hc 2 h.u2, hc 3 h.u3, (k.frozen m 0 hl).trans h.z0, (k.frozen m 1 hl).trans h.z1, (k.frozen m 2 hl).trans h.z2, (k.frozen m 3 hl).trans h.z3⟩

set_option maxRecDepth 100000 in
set_option maxHeartbeats 800000 in
theorem hold_zero (B r pn pu : Nat) (now L base f : Int) (w : World) (hF : Full w B r false false base f)
    (c14 : w.cell? ⟨B, 14, none⟩ = some (.int .u64 pn)) (c15 : w.cell? ⟨B, 15, none⟩ = some (.int .u64 pu)) (c17 : w.cell? ⟨B, 17, none⟩ = some (.map none)) (c18 : w.cell? ⟨B, 18, none⟩ = some (.map none))
    (hpn : pn < 18446744073709551616) (hpu : pu < 18446744073709551616) (hna : -9223372036854775808 ≤ now) (hnb : now ≤ 9223372036854775807)
    (hL : (now + 9223372036854775808) * pn = L) (hL0 : 0 ≤ L) (hLf : L ≤ f) :
    Calls Yba.prog 24 #[.pointer (some ⟨B, 0, none⟩), .string kk, .int .u64 0, .int .i64 now] w fun e w' => e = .returned (.agg #[.int .i64 0, .int .u64 0, .int .u64 0, .int .i64 0]) ∧ Full w' B r false false base f ∧ Kept (Blk r) w w' := by
  obtain ⟨hbA, -⟩ := mark_new w
  have hMA := MarkAt.of_new w
  have hrl := has_lt hF.has
  have hnb2 := hF.nb rfl
  have HT := take_again B r 0 pn pu now L 0 base f _ (hF.below hbA) (cell_below hbA c14) (cell_below hbA c15) (cell_below hbA c17) (cell_below hbA c18) hpn hpu (by omega) hna hnb hL (by simp) hL0 (Int.le_refl _) hLf (by have := hF.f1; omega) (by omega)
  have e0 : f + 0 = f := by omega
  have hlB := hF.ltB
  rw [e0] at HT
  have hkA : Kept (Blk r) w (w.alloc (.cells #[.int .i64 0, .int .u64 0, .int .u64 0, .int .i64 0] 62)) := Kept.of_below hbA
  clear e0 hF c14 c15 c17 c18 hL hnb2
  go_enter Yba.func24, Yba.ntmps24
  go_wp2_with fail
  generalize w.alloc (.cells #[.int .i64 0, .int .u64 0, .int .u64 0, .int .i64 0] 62) = wA at *
  refine HT.mono ?_
  rintro e w1 ⟨rfl, hF1, hk1⟩
  have hM1 := hMA.kept hk1 (fun _ x => by have : w.heap.size = r := x; omega)
  obtain ⟨⟨m0, u0⟩, ⟨m1, u1⟩, ⟨m2, u2⟩, ⟨m3, u3⟩, z0, z1, z2, z3⟩ := hM1
  have hl8 := lt_of_cell u0
  have HF1 : Hid (Full w1 B r false false base f) := hF1
  have HK1 : Hid (Kept (Blk r) w w1) := hkA.trans hk1
  clear HT hMA hkA hk1 hbA hF1
  go_wp2_with fail
  simp [bodyPost, results, Yba.results24, go_sem, cell_set, u0, u1, u2, u3]
  have kS := ((((Kept.refl (Blk w.heap.size) w1).setCell (b := w.heap.size) (o := 0) (.inl rfl) (.int .i64 0)).setCell (b := w.heap.size) (o := 1) (.inl rfl) (.int .u64 0)).setCell (b := w.heap.size) (o := 2) (.inl rfl) (.int .u64 0)).setCell (b := w.heap.size) (o := 3) (.inl rfl) (.int .i64 0)
  exact ⟨HF1.out.kept kS (fun _ _ _ x => by have : B = w.heap.size := x; omega) (fun _ x => by have : r = w.heap.size := x; omega), HK1.out.trans' kS (fun x _ hx e => by have : x = w.heap.size := e; omega)⟩

theorem Bk.kept {T : Nat → Nat → Prop} {w w' : World} {B r r2 hb : Nat} {wh older : Bool} {base f : Int} {pn pu : Nat} {n hs lat op : Int} (h : Bk w B r r2 hb wh older base f pn pu n hs lat op) (kk : Kept T w w') (h1 : ∀ o, ¬ T B o) (h2 : ∀ o, ¬ T r o) (h3 : ∀ o, ¬ T r2 o) (h4 : ∀ o, ¬ T hb o) : Bk w' B r r2 hb wh older base f pn pu n hs lat op :=
  ⟨h.full.kept kk (fun o _ _ => h1 o) h2, h.held.kept kk (h1 _) (h1 _), h.has.kept kk h3, h.hold.kept kk h4, (kk.cell B 14 (lt_of_cell h.c14) (h1 _)).trans h.c14, (kk.cell B 15 (lt_of_cell h.c15) (h1 _)).trans h.c15, h.n1, h.n2, h.n3, h.n4⟩

def OrB (r B : Nat) : Nat → Nat → Prop := fun k _ => k = r ∨ k = B
def AtHold (B : Nat) : Nat → Nat → Prop := fun k o => k = B ∧ (o = 17 ∨ o = 19)

/-- The five cells of a new holding. -/
theorem holding_new (w : World) (th tl now : Int) : (w.alloc (.cells #[.int .i64 1, .int .u64 th, .int .u64 tl, .int .i64 now, .int .i64 0] 58)).cell? ⟨w.heap.size, 0, none⟩ = some (.int .i64 1) ∧
    (w.alloc (.cells #[.int .i64 1, .int .u64 th, .int .u64 tl, .int .i64 now, .int .i64 0] 58)).cell? ⟨w.heap.size, 1, none⟩ = some (.int .u64 th) ∧
    (w.alloc (.cells #[.int .i64 1, .int .u64 th, .int .u64 tl, .int .i64 now, .int .i64 0] 58)).cell? ⟨w.heap.size, 2, none⟩ = some (.int .u64 tl) ∧
    (w.alloc (.cells #[.int .i64 1, .int .u64 th, .int .u64 tl, .int .i64 now, .int .i64 0] 58)).cell? ⟨w.heap.size, 3, none⟩ = some (.int .i64 now) ∧
    (w.alloc (.cells #[.int .i64 1, .int .u64 th, .int .u64 tl, .int .i64 now, .int .i64 0] 58)).cell? ⟨w.heap.size, 4, none⟩ = some (.int .i64 0) ∧
    (∀ j, (w.alloc (.cells #[.int .i64 1, .int .u64 th, .int .u64 tl, .int .i64 now, .int .i64 0] 58)).frozen? ⟨w.heap.size, j, none⟩ = false) ∧
    (w.alloc (.cells #[.int .i64 1, .int .u64 th, .int .u64 tl, .int .i64 now, .int .i64 0] 58)).heap.size = w.heap.size + 1 := by
  refine ⟨?_, ?_, ?_, ?_, ?_, fun j => ?_, ?_⟩ <;> simp [go_sem]

set_option maxRecDepth 100000 in
set_option maxHeartbeats 1600000 in
theorem hold_main (B r sp pn pu : Nat) (now L T base f : Int) (w : World) (hF : Full w B r false false base f) (hspb : ((sp : Int) == 0) = false)
    (c14 : w.cell? ⟨B, 14, none⟩ = some (.int .u64 pn)) (c15 : w.cell? ⟨B, 15, none⟩ = some (.int .u64 pu)) (c17 : w.cell? ⟨B, 17, none⟩ = some (.map none)) (c18 : w.cell? ⟨B, 18, none⟩ = some (.map none))
    (c19 : w.cell? ⟨B, 19, none⟩ = some (.int .i64 0)) (z17 : w.frozen? ⟨B, 17, none⟩ = false) (z19 : w.frozen? ⟨B, 19, none⟩ = false)
    (hpn : pn < 18446744073709551616) (hpu : pu < 18446744073709551616) (hsp : sp < 18446744073709551616) (hna : -9223372036854775808 ≤ now) (hnb : now ≤ 9223372036854775807)
    (hL : (now + 9223372036854775808) * pn = L) (hT : (sp : Int) * pu = T) (hL0 : 0 ≤ L) (hT0 : 0 ≤ T) (hLf : L ≤ f) (hb : f + T < 340282366920938463463374607431768211456) (hd : f + T - base < 9223372036854775808) :
    Calls Yba.prog 24 #[.pointer (some ⟨B, 0, none⟩), .string kk, .int .u64 sp, .int .i64 now] w fun e w' => e = .returned (.agg #[.int .i64 1, .int .u64 (hiW T), .int .u64 (loW T), .int .i64 0]) ∧
      ∃ r2 hb, w.heap.size ≤ r2 ∧ w.heap.size ≤ hb ∧ Bk w' B r r2 hb false false base (f + T) pn pu 1 T now 1 ∧ Kept (OrB r B) w w' := by
  obtain ⟨hbA, -⟩ := mark_new w
  have hMA := MarkAt.of_new w
  have hrl := has_lt hF.has
  have hlB := hF.ltB
  have HT := take_again B r sp pn pu now L T base f _ (hF.below hbA) (cell_below hbA c14) (cell_below hbA c15) (cell_below hbA c17) (cell_below hbA c18) hpn hpu hsp hna hnb hL hT hL0 hT0 hLf hb hd
  have hkA : Kept (Blk r) w (w.alloc (.cells #[.int .i64 0, .int .u64 0, .int .u64 0, .int .i64 0] 62)) := Kept.of_below hbA
  have hneB : B ≠ r := fun e => hF.ne e.symm
  have HCs : Hid (w.cell? ⟨B, 14, none⟩ = some (.int .u64 pn) ∧ w.cell? ⟨B, 15, none⟩ = some (.int .u64 pu) ∧ w.cell? ⟨B, 17, none⟩ = some (.map none) ∧ w.cell? ⟨B, 18, none⟩ = some (.map none) ∧ w.cell? ⟨B, 19, none⟩ = some (.int .i64 0) ∧ w.frozen? ⟨B, 17, none⟩ = false ∧ w.frozen? ⟨B, 19, none⟩ = false) := ⟨c14, c15, c17, c18, c19, z17, z19⟩
  have HTT : Hid ((sp : Int) * pu = T) := hT
  clear hF c14 c15 c17 c18 c19 z17 z19 hL hT
  go_enter Yba.func24, Yba.ntmps24
  go_wp2_with fail
  generalize w.alloc (.cells #[.int .i64 0, .int .u64 0, .int .u64 0, .int .i64 0] 62) = wA at *
  refine HT.mono ?_
  rintro e w1 ⟨rfl, hF1, hk1⟩
  have hM1 := hMA.kept hk1 (fun _ x => by have : w.heap.size = r := x; omega)
  have hk1' := hkA.trans hk1
  have hnr : ∀ o, ¬ Blk r B o := fun o x => hneB x
  obtain ⟨s14, s15, s17, s18, s19, y17, y19⟩ := HCs.out
  replace s14 := (hk1'.cell B 14 hlB (hnr _)).trans s14
  replace s15 := (hk1'.cell B 15 hlB (hnr _)).trans s15
  replace s17 := (hk1'.cell B 17 hlB (hnr _)).trans s17
  replace s18 := (hk1'.cell B 18 hlB (hnr _)).trans s18
  replace s19 := (hk1'.cell B 19 hlB (hnr _)).trans s19
  replace y17 := (hk1'.frozen B 17 hlB).trans y17
  replace y19 := (hk1'.frozen B 19 hlB).trans y19
  have hlB1 : B < w1.heap.size := lt_of_cell s14
  have HG := hget_none B w1 s17 s18
  have HF1 : Hid (Full w1 B r false false base (f + T)) := hF1
  have HK1 : Hid (Kept (Blk r) w w1) := hk1'
  have HM1 : Hid (MarkAt w1 w.heap.size) := hM1
  clear HT hMA hkA hk1 hbA hF1 hk1' hM1
  go_wp2_with fail
  refine HG.mono ?_
  rintro e w2 ⟨rfl, hw2⟩
  subst w2
  clear HG
  go_upto_region 7 with fail
  have q19 : (w1.setCell ⟨B, 19, none⟩ (.int .i64 1)).cell? ⟨B, 19, none⟩ = some (.int .i64 1) := cell_set_same s19
  have hk2 : Kept (AtHold B) w1 (w1.setCell ⟨B, 19, none⟩ (.int .i64 1)) := (Kept.refl _ w1).setCell (.inl ⟨rfl, .inr rfl⟩) _
  have hn2 : ∀ j, j ≠ 17 → j ≠ 19 → ¬ AtHold B B j := fun j a b x => by rcases x.2 with h | h <;> omega
  have q15 := (hk2.cell B 15 hlB1 (hn2 15 (by omega) (by omega))).trans s15
  have q17 : (w1.setCell ⟨B, 19, none⟩ (.int .i64 1)).cell? ⟨B, 17, none⟩ = some (.map none) := by simp [cell_set, s17]
  have x17 := (hk2.frozen B 17 hlB1).trans y17
  have hlB2 : B < (w1.setCell ⟨B, 19, none⟩ (.int .i64 1)).heap.size := lt_of_cell q19
  clear s15 s17 s19 y17 y19
  generalize w1.setCell ⟨B, 19, none⟩ (.int .i64 1) = w2 at *
  have HTk := fun wx (k : Below w2.heap.size w2 wx) => ticks_any B sp pu wx hsp hpu (cell_below k q15)
  rw [HTT.out] at HTk
  unfold U at HTk
  have HTh : ∃ x y, x = hiW T ∧ y = loW T := ⟨_, _, rfl, rfl⟩
  obtain ⟨Th, Tl, hTh, hTl⟩ := HTh
  have HWd : Hid (Th = hiW T ∧ Tl = loW T) := ⟨hTh, hTl⟩
  rw [← hTh, ← hTl] at HTk
  clear hTh hTl
  go_cut [9] (fun x9 wx => ∃ w3, Below w2.heap.size w2 w3 ∧ x9 = .pointer (some ⟨w3.heap.size, 0, none⟩) ∧ wx = w3.alloc (.cells #[.int .i64 1, .int .u64 Th, .int .u64 Tl, .int .i64 now, .int .i64 0] 58))
  case first =>
    go_region_with (first | (go_at_call 31; refine (HTk _ (below_drew1 (Below.refl _ _))).mono ?_; rintro e w3 ⟨rfl, hb3⟩; replace hb3 := below_undrew1 hb3; have v19 := cell_below hb3 q19; have hl3 : B < w3.heap.size := lt_of_cell v19))
    all_goals (go_wp2_with fail; go_meet)
    all_goals exact ⟨w3, hb3, rfl, rfl⟩
  case rest =>
    obtain ⟨w3, hb3, rfl, rfl⟩ := hcut
    obtain ⟨g0, g1, g2, g3, g4, gz, hsz4⟩ := holding_new w3 Th Tl now
    have hb4 : Below w2.heap.size w2 (w3.alloc (.cells #[.int .i64 1, .int .u64 Th, .int .u64 Tl, .int .i64 now, .int .i64 0] 58)) := hb3.alloc hb3.size _
    have hs3 : w2.heap.size ≤ w3.heap.size := hb3.size
    generalize w3.alloc (.cells #[.int .i64 1, .int .u64 Th, .int .u64 Tl, .int .i64 now, .int .i64 0] 58) = w4 at *
    generalize w3.heap.size = hb at *
    have HRn := renewH_first_newer B (.pointer (some ⟨hb, 0, none⟩)) w4 (cell_below hb4 q17) ((hb4.frozen (p := ⟨B, 17, none⟩) hlB2).trans x17)
    have hlh : hb < w4.heap.size := by omega
    have hnhB : ¬ hb = B := by omega
    have hsz1 := hk2.size
    have hK4 : Kept (AtHold B) w1 w4 := hk2.trans (Kept.of_below hb4)
    have HK4 : Hid (Kept (AtHold B) w1 w4) := hK4
    clear hb3 hb4 hK4 hk2 HTk q15 q17 q19 x17
    go_wp2_with fail
    refine HRn.mono ?_
    rintro e w5 ⟨rfl, r2, hr2, hHas, hc17, hk5⟩
    have h5 : ∀ j, ¬ At B 17 hb j := fun j x => hnhB x.1
    replace g0 := (hk5.cell hb 0 hlh (h5 _)).trans g0
    replace g1 := (hk5.cell hb 1 hlh (h5 _)).trans g1
    replace g2 := (hk5.cell hb 2 hlh (h5 _)).trans g2
    replace g3 := (hk5.cell hb 3 hlh (h5 _)).trans g3
    replace g4 := (hk5.cell hb 4 hlh (h5 _)).trans g4
    have gy : ∀ j, w5.frozen? ⟨hb, j, none⟩ = false := fun j => (hk5.frozen hb j hlh).trans (gz j)
    have gy4 := gy 4
    have hK5 : Kept (AtHold B) w1 w5 := HK4.out.trans (hk5.mono (fun k o _ x => ⟨x.1, .inl x.2⟩))
    have hlh5 : hb < w5.heap.size := lt_of_cell g0
    have HK5 : Hid (Kept (AtHold B) w1 w5) := hK5
    have HHas : Hid (Has w5 r2 (.pointer (some ⟨hb, 0, none⟩))) := hHas
    have HC17 : Hid (w5.cell? ⟨B, 17, none⟩ = some (.map (some r2))) := hc17
    have HGY : Hid (∀ j, w5.frozen? ⟨hb, j, none⟩ = false) := gy
    clear HRn hk5 hK5 hHas hc17 gz gy h5
    go_upto_region 10 with fail
    have hK6 : Kept (AtHold B) w1 (w5.setCell ⟨hb, 4, none⟩ (.int .i64 1)) := HK5.out.setCell (.inr (by omega)) _
    have kk6 : Kept (Blk hb) w5 (w5.setCell ⟨hb, 4, none⟩ (.int .i64 1)) := (Kept.refl (Blk hb) w5).setCell (b := hb) (o := 4) (.inl rfl) _
    have k0 : (w5.setCell ⟨hb, 4, none⟩ (.int .i64 1)).cell? ⟨hb, 0, none⟩ = some (.int .i64 1) := by simp [cell_set, g0]
    have k1 : (w5.setCell ⟨hb, 4, none⟩ (.int .i64 1)).cell? ⟨hb, 1, none⟩ = some (.int .u64 Th) := by simp [cell_set, g1]
    have k2 : (w5.setCell ⟨hb, 4, none⟩ (.int .i64 1)).cell? ⟨hb, 2, none⟩ = some (.int .u64 Tl) := by simp [cell_set, g2]
    have k3 : (w5.setCell ⟨hb, 4, none⟩ (.int .i64 1)).cell? ⟨hb, 3, none⟩ = some (.int .i64 now) := by simp [cell_set, g3]
    have k4 : (w5.setCell ⟨hb, 4, none⟩ (.int .i64 1)).cell? ⟨hb, 4, none⟩ = some (.int .i64 1) := cell_set_same g4
    have kz : ∀ j, (w5.setCell ⟨hb, 4, none⟩ (.int .i64 1)).frozen? ⟨hb, j, none⟩ = false := fun j => (kk6.frozen hb j hlh5).trans (HGY.out j)
    have hm6 := hK6.size
    generalize w5.setCell ⟨hb, 4, none⟩ (.int .i64 1) = w6 at *
    have hsz0 := HK1.out.size
    have hm1 : w.heap.size < w1.heap.size := by obtain ⟨u, hu⟩ := HM1.out.u0; exact lt_of_cell hu
    have hA6 : ∀ j, j ≠ 17 → j ≠ 19 → ¬ AtHold B B j := fun j a b x => by rcases x.2 with h | h <;> omega
    have hBk : Bk w6 B r r2 hb false false base (f + T) pn pu 1 T now 1 := by
      obtain ⟨e1, e2⟩ := HWd.out
      subst e1 e2
      refine ⟨HF1.out.kept hK6 (fun o h1 h2 => hA6 o (by omega) (by omega)) (fun o x => hneB x.1.symm), ⟨?_, ?_, by omega⟩, HHas.out.kept kk6 (fun o x => by have : r2 = hb := x; omega), ⟨k0, k1, k2, k3, k4, kz 1, kz 2, kz 4⟩, ?_, ?_, by omega, by omega, by omega, hnhB⟩
      · exact (kk6.cell B 17 (lt_of_cell HC17.out) (fun x => hnhB (Eq.symm x))).trans HC17.out
      · exact (hK6.cell B 18 hlB1 (hA6 18 (by omega) (by omega))).trans s18
      · exact (hK6.cell B 14 hlB1 (hA6 14 (by omega) (by omega))).trans s14
      · obtain ⟨_, s15, _⟩ := HCs.out
        exact (hK6.cell B 15 hlB1 (hA6 15 (by omega) (by omega))).trans ((HK1.out.cell B 15 hlB (hnr _)).trans s15)
    have hM6 := HM1.out.kept hK6 (fun o x => by have : w.heap.size = B := x.1; omega)
    have hBel : Kept (OrB r B) w w6 := (HK1.out.mono (fun _ _ _ x => .inl x)).trans' hK6 (fun _ _ _ x => .inr x.1)
    obtain ⟨⟨m0, u0⟩, ⟨m1, u1⟩, ⟨m2, u2⟩, ⟨m3, u3⟩, z0, z1, z2, z3⟩ := hM6
    have hl8 := lt_of_cell u0
    have hlh6 := lt_of_cell k0
    have hne8 : ¬ w.heap.size = hb := by omega
    have HFin : Hid (∀ w7, Kept (Blk w.heap.size) w6 w7 → Bk w7 B r r2 hb false false base (f + T) pn pu 1 T now 1 ∧ Kept (OrB r B) w w7) := fun w7 k7 =>
      ⟨hBk.kept k7 (fun o x => by have : B = w.heap.size := x; omega) (fun o x => by have : r = w.heap.size := x; omega) (fun o x => by have : r2 = w.heap.size := x; omega) (fun o x => by have : hb = w.heap.size := x; omega), hBel.trans' k7 (fun x o hx e => by have : x = w.heap.size := e; omega)⟩
    have HR : Hid (w.heap.size ≤ r2 ∧ w.heap.size ≤ hb) := ⟨by omega, by omega⟩
    clear hBk hBel hK6 kk6 k3 k4 kz HK5 HHas HC17 HGY HK4 g0 g1 g2 g3 g4 gy4 HF1 HK1 HM1 s14 s18
    go_region
    all_goals go_wp2_with fail
    simp [bodyPost, results, Yba.results24, go_sem, cell_set, u0, u1, u2, u3]
    have kS := (((((Kept.refl (Blk w.heap.size) w6).setCell (b := w.heap.size) (o := 0) (.inl rfl) (.int .i64 1)).setCell (b := w.heap.size) (o := 1) (.inl rfl) (.int .u64 Th)).setCell (b := w.heap.size) (o := 2) (.inl rfl) (.int .u64 Tl)).setCell (b := w.heap.size) (o := 3) (.inl rfl) (.int .i64 0)).drew
    obtain ⟨hBk, hBel⟩ := HFin.out _ kS
    exact ⟨HWd.out, r2, HR.out.1, hb, HR.out.2, hBk, hBel⟩

end Go.Proofs.Ybulkaqom

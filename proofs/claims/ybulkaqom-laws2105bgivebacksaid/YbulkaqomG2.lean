/-
  buckets.giveBack, the main way.
-/
import Derived.Test.YbulkaqomU2
import Derived.Deep.DeepCutAuto
namespace Go.Proofs.Ybulkaqom
open Go.RowKit Go.ChangeMaps

theorem below_alloc_self {a w : World} (o : Obj) (h : Below a.heap.size a w) : Below a.heap.size a (w.alloc o) := h.alloc h.size o

theorem cell_alloc_old {w : World} {a : Addr} {v : Value} (o : Obj) (h : w.cell? a = some v) : (w.alloc o).cell? a = some v :=
  (World.cell?_of_block (w := w) (Below.heap_alloc _ _ _ (lt_of_cell h))).trans h
theorem cell_below {w w' : World} {a : Addr} {v : Value} (k : Below w.heap.size w w') (h : w.cell? a = some v) : w'.cell? a = some v := (k.cell (lt_of_cell h)).trans h

theorem below_undrew1 {B : Nat} {w w' : World} (h : Below B w.drew w') : Below B w w' := ⟨h.os, h.tape, h.output, h.size, h.block⟩
theorem below_drew1 {B : Nat} {w w' : World} (h : Below B w w') : Below B w w'.drew := ⟨h.os, h.tape, h.output, h.size, h.block⟩
theorem cell_drew_old {w : World} {a : Addr} {v : Value} (h : w.cell? a = some v) : w.drew.cell? a = some v := h
theorem cell_drewN_old {w : World} {a : Addr} {v : Value} {q : Nat} (h : w.cell? a = some v) : (w.drewN q).cell? a = some v := h

theorem Bk.refull {w w' : World} {B r r2 hb : Nat} {wh older : Bool} {base f f' : Int} {pn pu : Nat} {n hs lat op : Int} (h : Bk w B r r2 hb wh older base f pn pu n hs lat op) (k : Kept (Blk r) w w') (hF : Full w' B r wh older base f') : Bk w' B r r2 hb wh older base f' pn pu n hs lat op := by
  have hBr : ∀ o, ¬ Blk r B o := fun _ x => h.full.ne (Eq.symm x)
  exact ⟨hF, h.held.kept k (hBr _) (hBr _), h.has.kept k (fun _ x => h.n1 x), h.hold.kept k (fun _ x => h.n2 x), (k.cell B 14 (lt_of_cell h.c14) (hBr _)).trans h.c14, (k.cell B 15 (lt_of_cell h.c15) (hBr _)).trans h.c15, h.n1, h.n2, h.n3, h.n4⟩

theorem Bk.rehold {w w' : World} {B r r2 hb : Nat} {wh older : Bool} {base f : Int} {pn pu : Nat} {n hs hs' lat op op' : Int} (h : Bk w B r r2 hb wh older base f pn pu n hs lat op) (k : Kept (Blk hb) w w') (hh : Holding w' hb n hs' lat op') : Bk w' B r r2 hb wh older base f pn pu n hs' lat op' := by
  have hBr : ∀ o, ¬ Blk hb B o := fun _ x => h.n4 (Eq.symm x)
  exact ⟨h.full.kept k (fun _ _ _ => hBr _) (fun _ x => h.n2 (Eq.symm x)), h.held.kept k (hBr _) (hBr _), h.has.kept k (fun _ x => h.n3 (Eq.symm x)), hh, (k.cell B 14 (lt_of_cell h.c14) (hBr _)).trans h.c14, (k.cell B 15 (lt_of_cell h.c15) (hBr _)).trans h.c15, h.n1, h.n2, h.n3, h.n4⟩

/-- The full tick behind giveBack. -/
def newF (f L E T : Int) : Int := if E < f - L then f - (if T < f - L - E then T else f - L - E) else f

/-- What giveBack may turn. -/
def May (r hb r2 : Nat) : Nat → Nat → Prop := fun k _ => k = r ∨ k = hb ∨ k = r2

set_option maxRecDepth 100000 in
set_option maxHeartbeats 16000000 in
theorem give_main (B r r2 hb : Nat) (wh ol : Bool) (base f L T : Int) (sp pn pu : Nat) (n hs ms lat op mx : Int) (w : World) (hsp : ((sp : Int) == 0) = false)
    (hB : Bk w B r r2 hb wh ol base f pn pu n hs lat op) (hsp1 : sp < 18446744073709551616) (hpu : pu < 18446744073709551616) (hpn : pn < 18446744073709551616) (hm0 : 0 ≤ ms) (hm1 : ms ≤ hs) (hs1 : hs < 340282366920938463463374607431768211456)
    (hla : -9223372036854775808 ≤ lat) (hlb : lat ≤ 9223372036854775807) (hL : (lat + 9223372036854775808) * pn = L) (hL0 : 0 ≤ L) (hLf : L ≤ f) (hT : (sp : Int) * pu = T) (hT0 : 0 ≤ T) (hTm : T ≤ ms) (hop0 : 1 ≤ op) (hop1 : op ≤ 9223372036854775807)
    (hbase : wh = false → base ≤ newF f L (hs - ms) T) :
    Calls Yba.prog 17 #[.pointer (some ⟨B, 0, none⟩), .string kk, .int .u64 sp, .agg #[.int .i64 n, .int .u64 (hiW ms), .int .u64 (loW ms), .int .i64 mx], .int .i64 0] w fun e w' => e = .returned (.tuple #[]) ∧
      Full w' B r wh ol base (newF f L (hs - ms) T) ∧ Holding w' hb n (if hs - ms = 0 then hs - T else hs) lat (op - 1) ∧ HeldAt w' B r2 ol ∧ (if op = 1 then Emp w' r2 else Has w' r2 (.pointer (some ⟨hb, 0, none⟩))) ∧
      w'.cell? ⟨B, 14, none⟩ = some (.int .u64 pn) ∧ w'.cell? ⟨B, 15, none⟩ = some (.int .u64 pu) ∧ Kept (May r hb r2) w w' := by
  have hbA : Below w.heap.size w (w.alloc (.cells #[.int .i64 n, .int .u64 (hiW ms), .int .u64 (loW ms), .int .i64 mx] 62)) := (Below.refl w.heap.size w).alloc (Nat.le_refl _) _
  have m0 : (w.alloc (.cells #[.int .i64 n, .int .u64 (hiW ms), .int .u64 (loW ms), .int .i64 mx] 62)).cell? ⟨w.heap.size, 0, none⟩ = some (.int .i64 n) := by simp [go_sem]
  have m1 : (w.alloc (.cells #[.int .i64 n, .int .u64 (hiW ms), .int .u64 (loW ms), .int .i64 mx] 62)).cell? ⟨w.heap.size, 1, none⟩ = some (.int .u64 (hiW ms)) := by simp [go_sem]
  have m2 : (w.alloc (.cells #[.int .i64 n, .int .u64 (hiW ms), .int .u64 (loW ms), .int .i64 mx] 62)).cell? ⟨w.heap.size, 2, none⟩ = some (.int .u64 (loW ms)) := by simp [go_sem]
  have hA := hB.below hbA
  have hszA : (w.alloc (.cells #[.int .i64 n, .int .u64 (hiW ms), .int .u64 (loW ms), .int .i64 mx] 62)).heap.size = w.heap.size + 1 := by simp
  have hltb : hb < w.heap.size := lt_of_cell hB.hold.c0
  have hf1 := hB.full.f1
  have hrl : r < w.heap.size := has_lt hB.full.has
  have hnb := hB.full.nb
  have HF := hfind_any B r2 ol _ _ hA.held hA.has
  have HL1 : ∀ wx, Calls Yba.prog 34 #[U (hs - ms), U (f - L)] wx fun e w' => e = .returned (.bool (decide (hs - ms < f - L))) ∧ ∃ c1 c2 : Array Value, w' = (wx.alloc (.cells c1 46)).alloc (.cells c2 46) := fun wx => less_ex _ _ wx
  have HS1 : ∀ wx, Calls Yba.prog 32 #[U f, U L] wx fun e w' => e = .returned (U (f - L)) ∧ ∃ c1 c2 c3 : Array Value, w' = ((wx.alloc (.cells c1 46)).alloc (.cells c2 46)).alloc (.cells c3 46) := fun wx => sub_ex f L wx hL0 hLf hf1
  have HS2 : hs - ms < f - L → ∀ wx, Calls Yba.prog 32 #[U (f - L), U (hs - ms)] wx fun e w' => e = .returned (U (f - L - (hs - ms))) ∧ ∃ c1 c2 c3 : Array Value, w' = ((wx.alloc (.cells c1 46)).alloc (.cells c2 46)).alloc (.cells c3 46) := fun h wx => sub_ex _ _ wx (by omega) (by omega) (by omega)
  have HL2 : ∀ wx, Calls Yba.prog 34 #[U T, U (f - L - (hs - ms))] wx fun e w' => e = .returned (.bool (decide (T < f - L - (hs - ms)))) ∧ ∃ c1 c2 : Array Value, w' = (wx.alloc (.cells c1 46)).alloc (.cells c2 46) := fun wx => less_ex _ _ wx
  have HS3 : ∀ y, 0 ≤ y → y ≤ f → ∀ wx, Calls Yba.prog 32 #[U f, U y] wx fun e w' => e = .returned (U (f - y)) ∧ ∃ c1 c2 c3 : Array Value, w' = ((wx.alloc (.cells c1 46)).alloc (.cells c2 46)).alloc (.cells c3 46) := fun y h0 h1 wx => sub_ex f y wx h0 h1 hf1
  have HS4 : ∀ wx, Calls Yba.prog 32 #[U hs, U T] wx fun e w' => e = .returned (U (hs - T)) ∧ Below wx.heap.size wx w' := fun wx => sub_any hs T wx hT0 (by omega) hs1
  go_enter Yba.func17, Yba.ntmps17
  go_wp2_with fail
  generalize w.alloc (.cells #[.int .i64 n, .int .u64 (hiW ms), .int .u64 (loW ms), .int .i64 mx] 62) = wA at *
  refine HF.mono ?_
  rintro e w1 ⟨rfl, hw1⟩
  subst w1
  obtain ⟨h0, h1, h2, h3, h4, z1, z2, z4⟩ := hA.hold
  have HBk : Hid (Bk wA B r r2 hb wh ol base f pn pu n hs lat op) := hA
  have h15 := hA.c15
  have HT : ∀ wx : World, wx.cell? ⟨B, 15, none⟩ = some (.int .u64 pu) → Calls Yba.prog 31 #[.pointer (some ⟨B, 0, none⟩), .int .u64 sp] wx fun e w' => e = .returned (U T) ∧ ∃ c1 c2 : Array Value, w' = (wx.alloc (.cells c1 46)).alloc (.cells c2 46) := fun wx hx => hT ▸ ticks_ex B sp pu wx hsp1 hpu hx
  have HS : ∀ wx, Calls Yba.prog 32 #[U hs, U ms] wx fun e w' => e = .returned (U (hs - ms)) ∧ ∃ c1 c2 c3 : Array Value, w' = ((wx.alloc (.cells c1 46)).alloc (.cells c2 46)).alloc (.cells c3 46) := fun wx => sub_ex hs ms wx hm0 hm1 hs1
  unfold U at *
  clear HF hA hB
  go_wp2_with fail
  go_quiet (fail)
  go_wp2_with fail
  go_cut [13, 14] (fun x13 x14 wc => ∃ b13 b14 : Nat, x13 = .pointer (some ⟨b13, 0, none⟩) ∧ x14 = .pointer (some ⟨b14, 0, none⟩) ∧ wc.cell? ⟨b13, 0, none⟩ = some (.int .u64 (hiW T)) ∧ wc.cell? ⟨b13, 1, none⟩ = some (.int .u64 (loW T)) ∧ wc.cell? ⟨b14, 0, none⟩ = some (.int .u64 (hiW (hs - ms))) ∧ wc.cell? ⟨b14, 1, none⟩ = some (.int .u64 (loW (hs - ms))) ∧ Below wA.heap.size wA wc ∧ w.heap.size < b13 ∧ w.heap.size < b14)
  case first =>
    go_region_held3 (fun w' => w'.cell? ⟨B, 15, none⟩ = some (.int .u64 pu) ∧ w'.cell? ⟨hb, 1, none⟩ = some (.int .u64 (hiW hs)) ∧ w'.cell? ⟨hb, 2, none⟩ = some (.int .u64 (loW hs)) ∧ w'.cell? ⟨w.heap.size, 1, none⟩ = some (.int .u64 (hiW ms)) ∧ w'.cell? ⟨w.heap.size, 2, none⟩ = some (.int .u64 (loW ms))) (exact ⟨by ((repeat (first | with_reducible refine cell_alloc_old _ ?_ | with_reducible refine cell_drew_old ?_)); exact h15), by ((repeat (first | with_reducible refine cell_alloc_old _ ?_ | with_reducible refine cell_drew_old ?_)); exact h1), by ((repeat (first | with_reducible refine cell_alloc_old _ ?_ | with_reducible refine cell_drew_old ?_)); exact h2), by ((repeat (first | with_reducible refine cell_alloc_old _ ?_ | with_reducible refine cell_drew_old ?_)); exact m1), by ((repeat (first | with_reducible refine cell_alloc_old _ ?_ | with_reducible refine cell_drew_old ?_)); exact m2)⟩)
      (first
      | (go_at_call 31; refine (HT _ (by ((repeat (first | with_reducible refine cell_alloc_old _ ?_ | with_reducible refine cell_drew_old ?_)); exact h15))).mono ?_; rintro e w1 ⟨rfl, c1, c2, rfl⟩)
      | (go_at_call 32; refine (HS _).mono ?_; rintro e w2 ⟨rfl, d1, d2, d3, rfl⟩))
    all_goals (go_wp2_with fail; go_meet; exact ⟨_, _, rfl, rfl, by simp [go_sem, hszA], by simp [go_sem, hszA], by simp [go_sem, hszA], by simp [go_sem, hszA], by ((repeat (with_reducible refine below_alloc_self _ ?_)); exact below_drewN (Below.refl _ _) _), by omega, by omega⟩)
  case rest =>
    obtain ⟨b13, b14, rfl, rfl, t0, t1, e0, e1, hbc, hg13, hg14⟩ := hcut
    have hBc : Hid (Bk wc B r r2 hb wh ol base f pn pu n hs lat op) := HBk.out.below hbc
    have HKc : Hid (Below w.heap.size w wc) := hbA.trans (hbc.mono hbA.size)
    have HF18 := ffind_any B r wh ol base f wc hBc.out.full
    unfold U at *
    clear h0 h1 h2 h3 h4 z1 z2 z4 h15 HBk HT HS m0 m1 m2 hbc hbA hszA
    clear wA
    go_wp2_with fail
    refine HF18.mono ?_
    rintro e w4 ⟨rfl, hb4⟩
    clear HF18
    have hB4 : Hid (Bk (w4.alloc (.cells #[.int .u64 (hiW f), .int .u64 (loW f)] 46)) B r r2 hb wh ol base f pn pu n hs lat op) := (hBc.out.below hb4).below ((Below.refl w4.heap.size w4).alloc (Nat.le_refl _) _)
    replace t0 := cell_alloc_old (.cells #[.int .u64 (hiW f), .int .u64 (loW f)] 46) (cell_below hb4 t0)
    replace t1 := cell_alloc_old (.cells #[.int .u64 (hiW f), .int .u64 (loW f)] 46) (cell_below hb4 t1)
    replace e0 := cell_alloc_old (.cells #[.int .u64 (hiW f), .int .u64 (loW f)] 46) (cell_below hb4 e0)
    replace e1 := cell_alloc_old (.cells #[.int .u64 (hiW f), .int .u64 (loW f)] 46) (cell_below hb4 e1)
    have f0 : (w4.alloc (.cells #[.int .u64 (hiW f), .int .u64 (loW f)] 46)).cell? ⟨w4.heap.size, 0, none⟩ = some (.int .u64 (hiW f)) := by simp [go_sem]
    have f1 : (w4.alloc (.cells #[.int .u64 (hiW f), .int .u64 (loW f)] 46)).cell? ⟨w4.heap.size, 1, none⟩ = some (.int .u64 (loW f)) := by simp [go_sem]
    have hK4 : Hid (Below w.heap.size w (w4.alloc (.cells #[.int .u64 (hiW f), .int .u64 (loW f)] 46))) := (HKc.out.trans (hb4.mono HKc.out.size)).alloc (HKc.out.trans (hb4.mono HKc.out.size)).size _
    have h3 : w4.cell? ⟨hb, 3, none⟩ = some (.int .i64 lat) := cell_below hb4 hBc.out.hold.c3
    have hl4 : hb < w4.heap.size := lt_of_cell h3
    have HTick := tick_any B lat pn _ hla hlb hpn hB4.out.c14
    rw [hL] at HTick
    unfold U at *
    clear hb4 hBc HKc
    go_wp2_with fail
    refine HTick.mono ?_
    rintro e w5 ⟨rfl, hb5⟩
    have hB5 : Hid (Bk (w5.alloc (.cells #[.int .u64 (hiW L), .int .u64 (loW L)] 46)) B r r2 hb wh ol base f pn pu n hs lat op) := (hB4.out.below hb5).below ((Below.refl w5.heap.size w5).alloc (Nat.le_refl _) _)
    replace t0 := cell_alloc_old (.cells #[.int .u64 (hiW L), .int .u64 (loW L)] 46) (cell_below hb5 t0)
    replace t1 := cell_alloc_old (.cells #[.int .u64 (hiW L), .int .u64 (loW L)] 46) (cell_below hb5 t1)
    replace e0 := cell_alloc_old (.cells #[.int .u64 (hiW L), .int .u64 (loW L)] 46) (cell_below hb5 e0)
    replace e1 := cell_alloc_old (.cells #[.int .u64 (hiW L), .int .u64 (loW L)] 46) (cell_below hb5 e1)
    replace f0 := cell_alloc_old (.cells #[.int .u64 (hiW L), .int .u64 (loW L)] 46) (cell_below hb5 f0)
    replace f1 := cell_alloc_old (.cells #[.int .u64 (hiW L), .int .u64 (loW L)] 46) (cell_below hb5 f1)
    have l0 : (w5.alloc (.cells #[.int .u64 (hiW L), .int .u64 (loW L)] 46)).cell? ⟨w5.heap.size, 0, none⟩ = some (.int .u64 (hiW L)) := by simp [go_sem]
    have l1 : (w5.alloc (.cells #[.int .u64 (hiW L), .int .u64 (loW L)] 46)).cell? ⟨w5.heap.size, 1, none⟩ = some (.int .u64 (loW L)) := by simp [go_sem]
    have hK5 : Hid (Below w.heap.size w (w5.alloc (.cells #[.int .u64 (hiW L), .int .u64 (loW L)] 46))) := (hK4.out.trans (hb5.mono hK4.out.size)).alloc (hK4.out.trans (hb5.mono hK4.out.size)).size _
    clear hb5 hB4 hK4 h3 hl4 HTick
    go_upto_if 73 with fail
    generalize w5.alloc (.cells #[.int .u64 (hiW L), .int .u64 (loW L)] 46) = wD at *
    generalize w4.heap.size = b15 at *
    generalize w5.heap.size = b18 at *
    go_region_held3 (fun w' => w'.cell? ⟨b14, 0, none⟩ = some (.int .u64 (hiW (hs - ms))) ∧ w'.cell? ⟨b14, 1, none⟩ = some (.int .u64 (loW (hs - ms))) ∧ w'.cell? ⟨b15, 0, none⟩ = some (.int .u64 (hiW f)) ∧ w'.cell? ⟨b15, 1, none⟩ = some (.int .u64 (loW f)) ∧ w'.cell? ⟨b18, 0, none⟩ = some (.int .u64 (hiW L)) ∧ w'.cell? ⟨b18, 1, none⟩ = some (.int .u64 (loW L))) (exact ⟨by ((repeat (first | with_reducible refine cell_alloc_old _ ?_ | with_reducible refine cell_drew_old ?_)); exact e0), by ((repeat (first | with_reducible refine cell_alloc_old _ ?_ | with_reducible refine cell_drew_old ?_)); exact e1), by ((repeat (first | with_reducible refine cell_alloc_old _ ?_ | with_reducible refine cell_drew_old ?_)); exact f0), by ((repeat (first | with_reducible refine cell_alloc_old _ ?_ | with_reducible refine cell_drew_old ?_)); exact f1), by ((repeat (first | with_reducible refine cell_alloc_old _ ?_ | with_reducible refine cell_drew_old ?_)); exact l0), by ((repeat (first | with_reducible refine cell_alloc_old _ ?_ | with_reducible refine cell_drew_old ?_)); exact l1)⟩)
      (first
      | (go_at_call 32; refine (HS1 _).mono ?_; rintro e w6 ⟨rfl, c1, c2, c3, rfl⟩)
      | (go_at_call 34; refine (HL1 _).mono ?_; rintro e w7 ⟨rfl, d1, d2, rfl⟩))
    go_upto_if 73 with fail
    have hbE : Below wD.heap.size wD ((((((wD.alloc (.cells c1 46)).alloc (.cells c2 46)).alloc (.cells c3 46)).alloc (.cells d1 46)).alloc (.cells d2 46)).drew) := below_drew1 (below_alloc_self _ (below_alloc_self _ (below_alloc_self _ (below_alloc_self _ (below_alloc_self _ (Below.refl _ _))))))
    generalize (((((wD.alloc (.cells c1 46)).alloc (.cells c2 46)).alloc (.cells c3 46)).alloc (.cells d1 46)).alloc (.cells d2 46)).drew = wE at *
    have hBE : Hid (Bk wE B r r2 hb wh ol base f pn pu n hs lat op) := hB5.out.below hbE
    have hKE : Hid (Below w.heap.size w wE) := hK5.out.trans (hbE.mono hK5.out.size)
    replace t0 := cell_below hbE t0
    replace t1 := cell_below hbE t1
    replace e0 := cell_below hbE e0
    replace e1 := cell_below hbE e1
    replace f0 := cell_below hbE f0
    replace f1 := cell_below hbE f1
    replace l0 := cell_below hbE l0
    replace l1 := cell_below hbE l1
    clear hbE hB5 hK5
    go_cut [19] (fun _ wx => Bk wx B r r2 hb wh ol base (newF f L (hs - ms) T) pn pu n hs lat op ∧ wx.cell? ⟨b13, 0, none⟩ = some (.int .u64 (hiW T)) ∧ wx.cell? ⟨b13, 1, none⟩ = some (.int .u64 (loW T)) ∧ wx.cell? ⟨b14, 0, none⟩ = some (.int .u64 (hiW (hs - ms))) ∧ wx.cell? ⟨b14, 1, none⟩ = some (.int .u64 (loW (hs - ms))) ∧ Kept (Blk r) w wx)
    case first =>
      by_cases hlt : hs - ms < f - L
      · have hd : decide (hs - ms < f - L) = true := by simpa using hlt
        have HS2' := HS2 hlt
        clear HS2
        go_wp2_with fail
        go_cut [19] (fun x19 wx => ∃ b19 : Nat, x19 = .pointer (some ⟨b19, 0, none⟩) ∧ wx.cell? ⟨b19, 0, none⟩ = some (.int .u64 (hiW (f - L - (hs - ms)))) ∧ wx.cell? ⟨b19, 1, none⟩ = some (.int .u64 (loW (f - L - (hs - ms)))) ∧ wx.frozen? ⟨b19, 0, none⟩ = false ∧ wx.frozen? ⟨b19, 1, none⟩ = false ∧ wE.heap.size ≤ b19 ∧ b19 < wx.heap.size ∧ Below wE.heap.size wE wx)
        case first =>
          go_region_held3 (fun w' => w'.cell? ⟨b14, 0, none⟩ = some (.int .u64 (hiW (hs - ms))) ∧ w'.cell? ⟨b14, 1, none⟩ = some (.int .u64 (loW (hs - ms))) ∧ w'.cell? ⟨b15, 0, none⟩ = some (.int .u64 (hiW f)) ∧ w'.cell? ⟨b15, 1, none⟩ = some (.int .u64 (loW f)) ∧ w'.cell? ⟨b18, 0, none⟩ = some (.int .u64 (hiW L)) ∧ w'.cell? ⟨b18, 1, none⟩ = some (.int .u64 (loW L))) (exact ⟨by ((repeat (first | with_reducible refine cell_alloc_old _ ?_ | with_reducible refine cell_drew_old ?_)); exact e0), by ((repeat (first | with_reducible refine cell_alloc_old _ ?_ | with_reducible refine cell_drew_old ?_)); exact e1), by ((repeat (first | with_reducible refine cell_alloc_old _ ?_ | with_reducible refine cell_drew_old ?_)); exact f0), by ((repeat (first | with_reducible refine cell_alloc_old _ ?_ | with_reducible refine cell_drew_old ?_)); exact f1), by ((repeat (first | with_reducible refine cell_alloc_old _ ?_ | with_reducible refine cell_drew_old ?_)); exact l0), by ((repeat (first | with_reducible refine cell_alloc_old _ ?_ | with_reducible refine cell_drew_old ?_)); exact l1)⟩)
            (first
            | (go_at_call 32; with_reducible refine Calls.mono (HS1 _) ?_; rintro e w6 ⟨rfl, c1, c2, c3, rfl⟩)
            | (go_at_call 32; with_reducible refine Calls.mono (HS2' _) ?_; rintro e w7 ⟨rfl, d1, d2, d3, rfl⟩))
          all_goals (go_wp2_with fail; go_meet; exact ⟨_, rfl, by simp [go_sem], by simp [go_sem], by simp [go_sem], by simp [go_sem], by omega, by simp <;> omega, by ((repeat (first | with_reducible refine below_alloc_self _ ?_ | with_reducible refine below_drew1 ?_)); exact Below.refl _ _)⟩)
        case rest =>
          obtain ⟨b19, rfl, k0, k1, kz0, kz1, hge, hl19, hbx⟩ := hcut
          have hn19 : b13 < wE.heap.size ∧ b15 < wE.heap.size := ⟨lt_of_cell t0, lt_of_cell f0⟩
          have HK : ∀ bk, 0 ≤ bk → bk ≤ f → f - bk = newF f L (hs - ms) T → ∀ wx, Below wE.heap.size wE wx → Calls Yba.prog 35 #[.pointer (some ⟨B, 5, none⟩), .string kk, .agg #[.int .u64 (hiW (f - bk)), .int .u64 (loW (f - bk))], .bool ol] wx fun e w' => e = .returned (.tuple #[]) ∧
              Bk w' B r r2 hb wh ol base (newF f L (hs - ms) T) pn pu n hs lat op ∧ w'.cell? ⟨b13, 0, none⟩ = some (.int .u64 (hiW T)) ∧ w'.cell? ⟨b13, 1, none⟩ = some (.int .u64 (loW T)) ∧ w'.cell? ⟨b14, 0, none⟩ = some (.int .u64 (hiW (hs - ms))) ∧ w'.cell? ⟨b14, 1, none⟩ = some (.int .u64 (loW (hs - ms))) ∧ Kept (Blk r) w w' := by
            intro bk hbk0 hbk1 hnew wx hx
            have hBx := hBE.out.below hx
            have hr : r < w.heap.size := hrl
            refine (fkeep_any B r wh ol base f (f - bk) wx hBx.full (by omega) (by omega) (fun e => ⟨by rw [hnew]; exact hbase e, by have := hnb e; omega⟩)).mono ?_
            rintro e w' ⟨he, hF, hk⟩
            rw [hnew] at hF
            have n13 : ∀ o, ¬ Blk r b13 o := fun o x => by have : b13 = r := x; omega
            have n14 : ∀ o, ¬ Blk r b14 o := fun o x => by have : b14 = r := x; omega
            have c0 := cell_below hx t0
            have c1 := cell_below hx t1
            have c2 := cell_below hx e0
            have c3 := cell_below hx e1
            refine ⟨he, hBx.refull hk hF, (hk.cell b13 0 (lt_of_cell c0) (n13 _)).trans c0, (hk.cell b13 1 (lt_of_cell c1) (n13 _)).trans c1, (hk.cell b14 0 (lt_of_cell c2) (n14 _)).trans c2, (hk.cell b14 1 (lt_of_cell c3) (n14 _)).trans c3, ?_⟩
            exact (Kept.of_below (T := Blk r) (hKE.out.trans (hx.mono hKE.out.size))).trans hk
          by_cases hlt2 : T < f - L - (hs - ms)
          · have hd2 : decide (T < f - L - (hs - ms)) = true := by simpa using hlt2
            have hnew : f - T = newF f L (hs - ms) T := by unfold newF; rw [if_pos hlt, if_pos hlt2]
            have HK' := HK T hT0 (by omega) hnew
            have HS3' := HS3 T hT0 (by omega)
            have y0 := cell_below hbx t0
            have y1 := cell_below hbx t1
            clear HK HS3 HS2' HS1 HL1 hnew
            go_wp2_with fail
            refine (HL2 _).mono ?_
            rintro e w8 ⟨rfl, g1, g2, rfl⟩
            have hbG : Below wc.heap.size wc ((wc.alloc (.cells g1 46)).alloc (.cells g2 46)) := below_alloc_self _ (below_alloc_self _ (Below.refl _ _))
            generalize (wc.alloc (.cells g1 46)).alloc (.cells g2 46) = wG at *
            replace k0 := cell_below hbG k0
            replace k1 := cell_below hbG k1
            replace y0 := cell_below hbG y0
            replace y1 := cell_below hbG y1
            replace kz0 := (hbG.frozen (p := ⟨b19, 0, none⟩) hl19).trans kz0
            replace kz1 := (hbG.frozen (p := ⟨b19, 1, none⟩) hl19).trans kz1
            have hbH := ((hbx.trans (hbG.mono hbx.size)).setCell (p := ⟨b19, 0, none⟩) hge (.int .u64 (hiW T))).setCell (p := ⟨b19, 1, none⟩) hge (.int .u64 (loW T))
            have q0 : ((wG.setCell ⟨b19, 0, none⟩ (.int .u64 (hiW T))).setCell ⟨b19, 1, none⟩ (.int .u64 (loW T))).cell? ⟨b19, 0, none⟩ = some (.int .u64 (hiW T)) := by simp [cell_set, k0]
            have q1 : ((wG.setCell ⟨b19, 0, none⟩ (.int .u64 (hiW T))).setCell ⟨b19, 1, none⟩ (.int .u64 (loW T))).cell? ⟨b19, 1, none⟩ = some (.int .u64 (loW T)) := by simp [cell_set, k1]
            clear hbx hbG hd2 HL2
            go_wp2_with fail
            generalize (wG.setCell ⟨b19, 0, none⟩ (.int .u64 (hiW T))).setCell ⟨b19, 1, none⟩ (.int .u64 (loW T)) = wH at *
            clear k0 k1 y0 y1 kz0 kz1 hl19
            have r0 := cell_below hbH f0
            have r1 := cell_below hbH f1
            go_region_with (first
              | (go_at_call 32; with_reducible refine Calls.mono (HS3' _) ?_; rintro e w9 ⟨rfl, c1, c2, c3, rfl⟩)
              | (go_at_call 35; refine (HK' _ (by ((repeat (first | with_reducible refine below_alloc_self _ ?_ | with_reducible refine below_drew1 ?_)); exact hbH))).mono ?_; rintro e wK ⟨rfl, hpost⟩))
            all_goals (go_wp2_with fail; go_meet; exact hpost)
          · have hd2 : decide (T < f - L - (hs - ms)) = false := by simpa using hlt2
            have hnew : f - (f - L - (hs - ms)) = newF f L (hs - ms) T := by unfold newF; rw [if_pos hlt, if_neg hlt2]
            have HK' := HK (f - L - (hs - ms)) (by omega) (by omega) hnew
            have HS3' := HS3 (f - L - (hs - ms)) (by omega) (by omega)
            have y0 := cell_below hbx t0
            have y1 := cell_below hbx t1
            clear HK HS3 HS2' HS1 HL1 hnew
            go_wp2_with fail
            refine (HL2 _).mono ?_
            rintro e w8 ⟨rfl, g1, g2, rfl⟩
            have hbG : Below wc.heap.size wc ((wc.alloc (.cells g1 46)).alloc (.cells g2 46)) := below_alloc_self _ (below_alloc_self _ (Below.refl _ _))
            generalize (wc.alloc (.cells g1 46)).alloc (.cells g2 46) = wH at *
            have q0 := cell_below hbG k0
            have q1 := cell_below hbG k1
            have hbH := hbx.trans (hbG.mono hbx.size)
            clear hbx hbG HL2 k0 k1 y0 y1 kz0 kz1 hl19
            go_wp2_with fail
            have r0 := cell_below hbH f0
            have r1 := cell_below hbH f1
            go_region_with (first
              | (go_at_call 32; with_reducible refine Calls.mono (HS3' _) ?_; rintro e w9 ⟨rfl, c1, c2, c3, rfl⟩)
              | (go_at_call 35; refine (HK' _ (by ((repeat (first | with_reducible refine below_alloc_self _ ?_ | with_reducible refine below_drew1 ?_)); exact hbH))).mono ?_; rintro e wK ⟨rfl, hpost⟩))
            all_goals (go_wp2_with fail; go_meet; exact hpost)
      · have hd : decide (hs - ms < f - L) = false := by simpa using hlt
        have hnew : newF f L (hs - ms) T = f := by unfold newF; rw [if_neg hlt]
        go_wp2_with fail
        go_meet
        rw [hnew]
        exact ⟨hBE.out, t0, t1, e0, e1, Kept.of_below hKE.out⟩
    case rest =>
      obtain ⟨hBF, y0, y1, y2, y3, hKF⟩ := hcut
      have HBF : Hid (Bk wc B r r2 hb wh ol base (newF f L (hs - ms) T) pn pu n hs lat op) := hBF
      have HKF : Hid (Kept (Blk r) w wc) := hKF
      have h1 := hBF.hold.c1
      have h2 := hBF.hold.c2
      have h4 := hBF.hold.c4
      have z1 := hBF.hold.z1
      have z2 := hBF.hold.z2
      have hlh : hb < wc.heap.size := lt_of_cell h1
      have hne13 : ¬ hb = b13 := by omega
      clear hBF hKF t0 t1 e0 e1 f0 f1 l0 l1 hBE hKE HS1 HS2 HS3 HL1 HL2
      have hKM0 : Kept (May r hb r2) w wc := HKF.out.mono (fun _ _ _ x => .inl x)
      by_cases hE : hs - ms = 0
      · have hEH : Hid (hs - ms = 0) := hE
        have a2 : hiW (hs - ms) = 0 := by rw [hE]; rfl
        have a3 : loW (hs - ms) = 0 := by rw [hE]; rfl
        rw [a2] at y2
        rw [a3] at y3
        clear a2 a3 hE
        go_wp2_with fail
        go_cut [19] (fun _ wx => Bk wx B r r2 hb wh ol base (newF f L (hs - ms) T) pn pu n (hs - T) lat op ∧ Kept (May r hb r2) w wx)
        case first =>
          go_region_with (first | (go_at_call 32; refine (HS4 _).mono ?_; rintro e w9 ⟨rfl, hb9⟩; replace hb9 := below_undrew1 hb9; have u1 := cell_below hb9 h1; have u2 := cell_below hb9 h2; have v1 := (hb9.frozen (p := ⟨hb, 1, none⟩) hlh).trans z1; have v2 := (hb9.frozen (p := ⟨hb, 2, none⟩) hlh).trans z2))
          all_goals
            go_wp2_with fail
            go_meet
            have hB9 := HBF.out.below hb9
            refine ⟨hB9.rehold (((Kept.refl (Blk hb) w9).setCell (.inl rfl) _).setCell (.inl rfl) _) ?_, ((hKM0.trans (Kept.of_below hb9)).setCell (.inl (.inr (.inl rfl))) _).setCell (.inl (.inr (.inl rfl))) _⟩
            exact ⟨by simp [cell_set, hB9.hold.c0], by simp [cell_set, hB9.hold.c1], by simp [cell_set, hB9.hold.c2], by simp [cell_set, hB9.hold.c3], by simp [cell_set, hB9.hold.c4], by simp [World.frozen?_setCell, hB9.hold.z1], by simp [World.frozen?_setCell, hB9.hold.z2], by simp [World.frozen?_setCell, hB9.hold.z4]⟩
        case rest =>
          rename World => wM
          obtain ⟨HM0, hKM⟩ := hcut
          have HM : Hid (Bk wM B r r2 hb wh ol base (newF f L (hs - ms) T) pn pu n (hs - T) lat op) := HM0
          have HKM : Hid (Kept (May r hb r2) w wM) := hKM
          clear HM0 hKM h1 h2 h4 z1 z2 y0 y1 y2 y3 hKM0
          have HMb := HM.out
          have h4 := HMb.hold.c4
          have z4 := HMb.hold.z4
          have hlM : hb < wM.heap.size := lt_of_cell h4
          have hN : Bk (wM.setCell ⟨hb, 4, none⟩ (.int .i64 (op - 1))) B r r2 hb wh ol base (newF f L (hs - ms) T) pn pu n (hs - T) lat (op - 1) :=
            HMb.rehold ((Kept.refl (Blk hb) wM).setCell (.inl rfl) _) ⟨by simp [cell_set, HMb.hold.c0], by simp [cell_set, HMb.hold.c1], by simp [cell_set, HMb.hold.c2], by simp [cell_set, HMb.hold.c3], by simp [cell_set, HMb.hold.c4], by simp [World.frozen?_setCell, HMb.hold.z1], by simp [World.frozen?_setCell, HMb.hold.z2], by simp [World.frozen?_setCell, HMb.hold.z4]⟩
          have hKN : Kept (May r hb r2) w (wM.setCell ⟨hb, 4, none⟩ (.int .i64 (op - 1))) := HKM.out.setCell (.inl (.inr (.inl rfl))) _
          clear HMb
          by_cases hop : op = 1
          · have HR := hremove_any B r2 ol _ _ hN.held hN.has
            subst hop
            have HN : Hid (Bk (wM.setCell ⟨hb, 4, none⟩ (.int .i64 (1 - 1))) B r r2 hb wh ol base (newF f L (hs - ms) T) pn pu n (hs - T) lat (1 - 1)) := hN
            have HKN : Hid (Kept (May r hb r2) w (wM.setCell ⟨hb, 4, none⟩ (.int .i64 (1 - 1)))) := hKN
            clear hN hKN
            go_wp2_with fail
            refine HR.mono ?_
            rintro e wR ⟨rfl, hem, hkR⟩
            clear HR
            go_wp2_with fail
            first | go_end0 | refine bodyPost_ret (results_none rfl _ _ _) rfl ?_
            have hN := HN.out
            have hB2 : ∀ o, ¬ Blk r2 B o := fun _ x => hN.held.ne (Eq.symm x)
            have f1 := hN.full.kept hkR (fun _ _ _ => hB2 _) (fun _ x => hN.n1 (Eq.symm x))
            have f2 := hN.hold.kept hkR (fun _ x => hN.n3 x)
            have hE0 := hEH.out
            refine ⟨rfl, by first | exact f1 | simpa [hE0] using f1, by first | exact f2 | simpa [hE0] using f2, hN.held.kept hkR (hB2 _) (hB2 _), by first | exact hem | simpa using hem, (hkR.cell B 14 (lt_of_cell hN.c14) (hB2 _)).trans hN.c14, (hkR.cell B 15 (lt_of_cell hN.c15) (hB2 _)).trans hN.c15, HKN.out.trans' hkR (fun _ _ _ x => .inr (.inr x))⟩
          · have hopb : (op - 1 == 0) = false := by simp; omega
            have HN : Hid (Bk (wM.setCell ⟨hb, 4, none⟩ (.int .i64 (op - 1))) B r r2 hb wh ol base (newF f L (hs - ms) T) pn pu n (hs - T) lat (op - 1)) := hN
            have HKN : Hid (Kept (May r hb r2) w (wM.setCell ⟨hb, 4, none⟩ (.int .i64 (op - 1)))) := hKN
            have hop' : Hid (¬ op = 1) := hop
            clear hN hKN hop
            go_wp2_with fail
            first | go_end0 | refine bodyPost_ret (results_none rfl _ _ _) rfl ?_
            have hN := HN.out
            have f1 := hN.full
            have f2 := hN.hold
            have f3 := hN.has
            have hE0 := hEH.out
            have hop0 := hop'.out
            refine ⟨rfl, by first | exact f1 | simpa [hE0] using f1, by first | exact f2 | simpa [hE0] using f2, hN.held, by first | exact f3 | simpa [hop0] using f3, hN.c14, hN.c15, HKN.out⟩
      · have hEH : Hid (¬ hs - ms = 0) := hE
        have HM : Hid (Bk wc B r r2 hb wh ol base (newF f L (hs - ms) T) pn pu n hs lat op) := HBF.out
        have HKM : Hid (Kept (May r hb r2) w wc) := hKM0
        by_cases a2 : hiW (hs - ms) = 0
        · have a3 : ¬ loW (hs - ms) = 0 := by unfold hiW at a2; unfold loW; omega
          have a3b : (loW (hs - ms) == 0) = false := by simpa using a3
          rw [a2] at y2
          clear a2 hE hKM0 h1 h2 h4
          go_upto_if 94 with fail
          clear y2 y3 a3 a3b
          have HMb := HM.out
          have h4 := HMb.hold.c4
          have z4 := HMb.hold.z4
          have hlM : hb < wc.heap.size := lt_of_cell h4
          have hN : Bk (wc.setCell ⟨hb, 4, none⟩ (.int .i64 (op - 1))) B r r2 hb wh ol base (newF f L (hs - ms) T) pn pu n (hs) lat (op - 1) :=
            HMb.rehold ((Kept.refl (Blk hb) wc).setCell (.inl rfl) _) ⟨by simp [cell_set, HMb.hold.c0], by simp [cell_set, HMb.hold.c1], by simp [cell_set, HMb.hold.c2], by simp [cell_set, HMb.hold.c3], by simp [cell_set, HMb.hold.c4], by simp [World.frozen?_setCell, HMb.hold.z1], by simp [World.frozen?_setCell, HMb.hold.z2], by simp [World.frozen?_setCell, HMb.hold.z4]⟩
          have hKN : Kept (May r hb r2) w (wc.setCell ⟨hb, 4, none⟩ (.int .i64 (op - 1))) := HKM.out.setCell (.inl (.inr (.inl rfl))) _
          clear HMb
          by_cases hop : op = 1
          · have HR := hremove_any B r2 ol _ _ hN.held hN.has
            subst hop
            have HN : Hid (Bk (wc.setCell ⟨hb, 4, none⟩ (.int .i64 (1 - 1))) B r r2 hb wh ol base (newF f L (hs - ms) T) pn pu n (hs) lat (1 - 1)) := hN
            have HKN : Hid (Kept (May r hb r2) w (wc.setCell ⟨hb, 4, none⟩ (.int .i64 (1 - 1)))) := hKN
            clear hN hKN
            go_wp2_with fail
            refine HR.mono ?_
            rintro e wR ⟨rfl, hem, hkR⟩
            clear HR
            go_wp2_with fail
            first | go_end0 | refine bodyPost_ret (results_none rfl _ _ _) rfl ?_
            have hN := HN.out
            have hB2 : ∀ o, ¬ Blk r2 B o := fun _ x => hN.held.ne (Eq.symm x)
            have f1 := hN.full.kept hkR (fun _ _ _ => hB2 _) (fun _ x => hN.n1 (Eq.symm x))
            have f2 := hN.hold.kept hkR (fun _ x => hN.n3 x)
            have hE0 := hEH.out
            refine ⟨rfl, by first | exact f1 | simpa [hE0] using f1, by first | exact f2 | simpa [hE0] using f2, hN.held.kept hkR (hB2 _) (hB2 _), by first | exact hem | simpa using hem, (hkR.cell B 14 (lt_of_cell hN.c14) (hB2 _)).trans hN.c14, (hkR.cell B 15 (lt_of_cell hN.c15) (hB2 _)).trans hN.c15, HKN.out.trans' hkR (fun _ _ _ x => .inr (.inr x))⟩
          · have hopb : (op - 1 == 0) = false := by simp; omega
            have HN : Hid (Bk (wc.setCell ⟨hb, 4, none⟩ (.int .i64 (op - 1))) B r r2 hb wh ol base (newF f L (hs - ms) T) pn pu n (hs) lat (op - 1)) := hN
            have HKN : Hid (Kept (May r hb r2) w (wc.setCell ⟨hb, 4, none⟩ (.int .i64 (op - 1)))) := hKN
            have hop' : Hid (¬ op = 1) := hop
            clear hN hKN hop
            go_wp2_with fail
            first | go_end0 | refine bodyPost_ret (results_none rfl _ _ _) rfl ?_
            have hN := HN.out
            have f1 := hN.full
            have f2 := hN.hold
            have f3 := hN.has
            have hE0 := hEH.out
            have hop0 := hop'.out
            refine ⟨rfl, by first | exact f1 | simpa [hE0] using f1, by first | exact f2 | simpa [hE0] using f2, hN.held, by first | exact f3 | simpa [hop0] using f3, hN.c14, hN.c15, HKN.out⟩
        · have a2b : (hiW (hs - ms) == 0) = false := by simpa using a2
          clear hE hKM0 h1 h2 h4
          go_upto_if 94 with fail
          clear y2 y3 a2 a2b
          have HMb := HM.out
          have h4 := HMb.hold.c4
          have z4 := HMb.hold.z4
          have hlM : hb < wc.heap.size := lt_of_cell h4
          have hN : Bk (wc.setCell ⟨hb, 4, none⟩ (.int .i64 (op - 1))) B r r2 hb wh ol base (newF f L (hs - ms) T) pn pu n (hs) lat (op - 1) :=
            HMb.rehold ((Kept.refl (Blk hb) wc).setCell (.inl rfl) _) ⟨by simp [cell_set, HMb.hold.c0], by simp [cell_set, HMb.hold.c1], by simp [cell_set, HMb.hold.c2], by simp [cell_set, HMb.hold.c3], by simp [cell_set, HMb.hold.c4], by simp [World.frozen?_setCell, HMb.hold.z1], by simp [World.frozen?_setCell, HMb.hold.z2], by simp [World.frozen?_setCell, HMb.hold.z4]⟩
          have hKN : Kept (May r hb r2) w (wc.setCell ⟨hb, 4, none⟩ (.int .i64 (op - 1))) := HKM.out.setCell (.inl (.inr (.inl rfl))) _
          clear HMb
          by_cases hop : op = 1
          · have HR := hremove_any B r2 ol _ _ hN.held hN.has
            subst hop
            have HN : Hid (Bk (wc.setCell ⟨hb, 4, none⟩ (.int .i64 (1 - 1))) B r r2 hb wh ol base (newF f L (hs - ms) T) pn pu n (hs) lat (1 - 1)) := hN
            have HKN : Hid (Kept (May r hb r2) w (wc.setCell ⟨hb, 4, none⟩ (.int .i64 (1 - 1)))) := hKN
            clear hN hKN
            go_wp2_with fail
            refine HR.mono ?_
            rintro e wR ⟨rfl, hem, hkR⟩
            clear HR
            go_wp2_with fail
            first | go_end0 | refine bodyPost_ret (results_none rfl _ _ _) rfl ?_
            have hN := HN.out
            have hB2 : ∀ o, ¬ Blk r2 B o := fun _ x => hN.held.ne (Eq.symm x)
            have f1 := hN.full.kept hkR (fun _ _ _ => hB2 _) (fun _ x => hN.n1 (Eq.symm x))
            have f2 := hN.hold.kept hkR (fun _ x => hN.n3 x)
            have hE0 := hEH.out
            refine ⟨rfl, by first | exact f1 | simpa [hE0] using f1, by first | exact f2 | simpa [hE0] using f2, hN.held.kept hkR (hB2 _) (hB2 _), by first | exact hem | simpa using hem, (hkR.cell B 14 (lt_of_cell hN.c14) (hB2 _)).trans hN.c14, (hkR.cell B 15 (lt_of_cell hN.c15) (hB2 _)).trans hN.c15, HKN.out.trans' hkR (fun _ _ _ x => .inr (.inr x))⟩
          · have hopb : (op - 1 == 0) = false := by simp; omega
            have HN : Hid (Bk (wc.setCell ⟨hb, 4, none⟩ (.int .i64 (op - 1))) B r r2 hb wh ol base (newF f L (hs - ms) T) pn pu n (hs) lat (op - 1)) := hN
            have HKN : Hid (Kept (May r hb r2) w (wc.setCell ⟨hb, 4, none⟩ (.int .i64 (op - 1)))) := hKN
            have hop' : Hid (¬ op = 1) := hop
            clear hN hKN hop
            go_wp2_with fail
            first | go_end0 | refine bodyPost_ret (results_none rfl _ _ _) rfl ?_
            have hN := HN.out
            have f1 := hN.full
            have f2 := hN.hold
            have f3 := hN.has
            have hE0 := hEH.out
            have hop0 := hop'.out
            refine ⟨rfl, by first | exact f1 | simpa [hE0] using f1, by first | exact f2 | simpa [hE0] using f2, hN.held, by first | exact f3 | simpa [hop0] using f3, hN.c14, hN.c15, HKN.out⟩
end Go.Proofs.Ybulkaqom

/-
  fullTicks.renew at a key that newer holds; buckets.take.
-/
import Derived.Test.YbulkaqomR1
namespace Go.Proofs.Ybulkaqom
open Go.RowKit Go.ChangeMaps

set_option maxRecDepth 100000 in
set_option maxHeartbeats 800000 in
theorem frenew_again (B r : Nat) (base f f' : Int) (w : World) (h : Full w B r false false base f) (h0 : 0 ≤ f') (h1 : f' < 340282366920938463463374607431768211456) (hn : base ≤ f' ∧ f' - base < 9223372036854775808) :
    Calls Yba.prog 43 #[.pointer (some ⟨B, 5, none⟩), .string kk, U f', .bool false] w fun e w' => e = .returned (.tuple #[]) ∧ Full w' B r false false base f' ∧ Kept (Blk r) w w' := by
  have hbA : Below w.heap.size w (w.alloc (.cells #[.int .u64 (hiW f'), .int .u64 (loW f')] 46)) := (Below.refl w.heap.size w).alloc (Nat.le_refl _) _
  have hA := h.below hbA
  have hkA : Kept (Blk r) w (w.alloc (.cells #[.int .u64 (hiW f'), .int .u64 (loW f')] 46)) := Kept.of_below hbA
  have hFin : ∀ w', Kept (Blk r) w w' → Has w' r (if false then U f' else .int .i64 (f' - base)) → Full w' B r false false base f' := fun w' k hh => h.set k hh h0 h1 (fun _ => hn)
  have hsz := h.ltB
  have hnb := h.nb rfl
  have HM := fun w => minus_any f' base w hnb.1 hn.1 h1 hn.2
  have c5 := h.c5
  have c9 := h.c9
  have c10 := h.cb0 rfl
  have c11 := h.cb1 rfl
  simp only [Bool.or_self, Bool.false_eq_true, if_false] at c5 c10 c11
  obtain ⟨es, c, hm, hes⟩ := has_len hA.has
  have hln : ∀ ty, (Builtin.len_ #[39] ty #[.map (some r)]).run Yba.prog (w.alloc (.cells #[.int .u64 (hiW f'), .int .u64 (loW f')] 46)) = .ok (.int .i64 1) (w.alloc (.cells #[.int .u64 (hiW f'), .int .u64 (loW f')] 46)) := fun ty => by
    have := len_map (P := Yba.prog) (ty := ty) u39 hm
    rw [hes] at this
    exact this
  have HFull : Hid (Full (w.alloc (.cells #[.int .u64 (hiW f'), .int .u64 (loW f')] 46)) B r false false base f) := hA
  clear hA h hnb hm hes
  unfold U at *
  generalize hiW f' = fh at *
  generalize loW f' = fl at *
  generalize hiW base = bh at *
  generalize loW base = bl at *
  go_enter Yba.func43, Yba.ntmps43
  go_upto_region 5 with fail
  go_region_with (first | (go_at_call 51; refine (HM _).mono ?_; rintro e w2 ⟨rfl, hb2⟩; replace hb2 := below_undrew hb2))
  all_goals clear HM
  all_goals go_wp2_with fail
  all_goals
    have hF2 := HFull.out.below hb2
    have hkx := hkA.trans' (Kept.of_below (T := Blk r) hb2) (fun _ _ _ x => x)
    refine (renewI_again_newer B r (f' - base) _ w2 hF2.c5 hF2.has).mono ?_
    rintro e w3 ⟨rfl, hh, hk⟩
    have hk2 := hkx.trans hk
    have c7 := (hk.cell B 7 hF2.ltB (fun x => hF2.ne (Eq.symm x))).trans hF2.c7
    have c8 := (hk.cell B 8 hF2.ltB (fun x => hF2.ne (Eq.symm x))).trans hF2.c8
    have HG := forget_none B false w3 c7 c8
    clear hb2 hF2 hkx hk c7 c8 hkA hbA HFull c9 hsz c5 c10 c11 hln
    go_wp2_with fail
    refine HG.mono ?_
    rintro e w4 ⟨rfl, q, hw4⟩
    subst w4
    clear HG
    go_wp2_with fail
    first | go_end0 | refine bodyPost_ret (results_none rfl _ _ _) rfl ?_
    exact ⟨rfl, hFin _ (hk2.drewN q) hh, hk2.drewN q⟩

theorem box2 {w0 w : World} (hb : Below w0.heap.size w0 w) (a b : Value) : Below w0.heap.size w0 (w.alloc (.cells #[a, b] 46)) := hb.alloc hb.size _

set_option maxRecDepth 100000 in
set_option maxHeartbeats 1600000 in
/-- buckets.take where no holding is. -/
theorem take_gen (B sp pn pu : Nat) (now L f0 T M : Int) (ok : Bool) (Tt : Nat → Nat → Prop) (R : World → Prop) (w : World)
    (c14 : w.cell? ⟨B, 14, none⟩ = some (.int .u64 pn)) (c15 : w.cell? ⟨B, 15, none⟩ = some (.int .u64 pu)) (c17 : w.cell? ⟨B, 17, none⟩ = some (.map none)) (c18 : w.cell? ⟨B, 18, none⟩ = some (.map none))
    (hpn : pn < 18446744073709551616) (hpu : pu < 18446744073709551616) (hsp : sp < 18446744073709551616) (hna : -9223372036854775808 ≤ now) (hnb : now ≤ 9223372036854775807)
    (hL : (now + 9223372036854775808) * pn = L) (hT : (sp : Int) * pu = T) (hL0 : 0 ≤ L) (hf0 : 0 ≤ f0) (hT0 : 0 ≤ T) (hM : (if L < f0 then f0 else L) = M) (hb : M + T < 340282366920938463463374607431768211456) (hT17 : ¬ Tt B 17) (hT18 : ¬ Tt B 18)
    (hRd : ∀ w' q, R w' → R (w'.drewN q))
    (HFind : ∀ wx, Below w.heap.size w wx → Calls Yba.prog 18 #[.pointer (some ⟨B, 5, none⟩), .string kk] wx fun e w' => e = .returned (.tuple #[U f0, .bool false, .bool ok]) ∧ Below wx.heap.size wx w')
    (HRen : ∀ wx, Below w.heap.size w wx → Calls Yba.prog 43 #[.pointer (some ⟨B, 5, none⟩), .string kk, U (M + T), .bool false] wx fun e w' => e = .returned (.tuple #[]) ∧ R w' ∧ Kept Tt wx w') :
    Calls Yba.prog 22 #[.pointer (some ⟨B, 0, none⟩), .string kk, .int .u64 sp, .int .i64 now] w fun e w' => e = .returned (.tuple #[]) ∧ R w' ∧ Kept Tt w w' := by
  have hl : B < w.heap.size := lt_of_cell c14
  have HTick := tick_any B now pn w hna hnb hpn c14
  rw [hL] at HTick
  have HTicks := fun wx (k : Below w.heap.size w wx) => ticks_any B sp pu wx hsp hpu (cell_below k c15)
  rw [hT] at HTicks
  have HLess := fun wx => less_any L f0 wx
  have HAdd := fun wx => add_any M T wx (by rw [← hM]; split <;> omega) hT0 hb
  have HC17 : Hid (w.cell? ⟨B, 17, none⟩ = some (.map none)) := c17
  have HC18 : Hid (w.cell? ⟨B, 18, none⟩ = some (.map none)) := c18
  clear c14 c15 c17 c18 hL hT
  unfold U at *
  generalize hiW (M + T) = Fh at *
  generalize loW (M + T) = Fl at *
  by_cases hlt : L < f0
  · rw [if_pos hlt] at hM
    subst hM
    have e1 : decide (L < f0) = true := by simpa using hlt
    rw [e1] at HLess
    clear e1
    have hlt' : Hid (L < f0) := hlt
    clear hlt
    generalize hiW L = Lh at *
    generalize loW L = Ll at *
    generalize hiW f0 = gh at *
    generalize loW f0 = gl at *
    generalize hiW T = Th at *
    generalize loW T = Tl at *
    go_enter Yba.func22, Yba.ntmps22
    go_wp2_with fail
    refine HTick.mono ?_
    rintro e w1 ⟨rfl, hb1⟩
    have k1 : Below w.heap.size w (w1.alloc (.cells #[.int .u64 Lh, .int .u64 Ll] 46)) := box2 hb1 _ _
    have b0 : (w1.alloc (.cells #[.int .u64 Lh, .int .u64 Ll] 46)).cell? ⟨w1.heap.size, 0, none⟩ = some (.int .u64 Lh) := by simp [go_sem]
    have b1 : (w1.alloc (.cells #[.int .u64 Lh, .int .u64 Ll] 46)).cell? ⟨w1.heap.size, 1, none⟩ = some (.int .u64 Ll) := by simp [go_sem]
    have HFi := HFind _ k1
    clear HTick hb1 HFind
    go_wp2_with fail
    generalize w1.alloc (.cells #[.int .u64 Lh, .int .u64 Ll] 46) = w2 at *
    generalize w1.heap.size = bx8 at *
    refine HFi.mono ?_
    rintro e w3 ⟨rfl, hb3⟩
    clear HFi
    have k4 : Below w.heap.size w (w3.alloc (.cells #[.int .u64 gh, .int .u64 gl] 46)) := box2 (k1.trans (hb3.mono k1.size)) _ _
    have d0 := cell_below (below_alloc_self (.cells #[.int .u64 gh, .int .u64 gl] 46) hb3) b0
    have d1 := cell_below (below_alloc_self (.cells #[.int .u64 gh, .int .u64 gl] 46) hb3) b1
    have g0 : (w3.alloc (.cells #[.int .u64 gh, .int .u64 gl] 46)).cell? ⟨w3.heap.size, 0, none⟩ = some (.int .u64 gh) := by simp [go_sem]
    have g1 : (w3.alloc (.cells #[.int .u64 gh, .int .u64 gl] 46)).cell? ⟨w3.heap.size, 1, none⟩ = some (.int .u64 gl) := by simp [go_sem]
    have z0 : (w3.alloc (.cells #[.int .u64 gh, .int .u64 gl] 46)).frozen? ⟨w3.heap.size, 0, none⟩ = false := by simp [go_sem]
    have z1 : (w3.alloc (.cells #[.int .u64 gh, .int .u64 gl] 46)).frozen? ⟨w3.heap.size, 1, none⟩ = false := by simp [go_sem]
    have hl8 : bx8 < w3.heap.size := Nat.lt_of_lt_of_le (lt_of_cell b0) hb3.size
    have hw3 : w.heap.size ≤ w3.heap.size := Nat.le_trans k1.size hb3.size
    clear b0 b1 k1
    go_wp2_with fail
    clear hb3
    generalize w3.alloc (.cells #[.int .u64 gh, .int .u64 gl] 46) = w4 at *
    generalize w3.heap.size = bx9 at *
    refine (HLess _).mono ?_
    rintro e w5 ⟨rfl, hb5⟩
    have hl9 := lt_of_cell g0
    have k5 : Below w.heap.size w w5 := k4.trans (hb5.mono k4.size)
    have hl95 : bx9 < w5.heap.size := Nat.lt_of_lt_of_le hl9 hb5.size
    have hl85 : bx8 < w5.heap.size := by omega
    replace d0 := cell_below hb5 d0
    replace d1 := cell_below hb5 d1
    replace g0 := cell_below hb5 g0
    replace g1 := cell_below hb5 g1
    replace z0 := (hb5.frozen (p := ⟨bx9, 0, none⟩) hl9).trans z0
    replace z1 := (hb5.frozen (p := ⟨bx9, 1, none⟩) hl9).trans z1
    clear HLess k4 hb5 hl9
    go_upto_region 5 with fail
    go_wp2_with fail
    refine (HTicks _ k5).mono ?_
    rintro e w6 ⟨rfl, hb6⟩
    have k7 : Below w.heap.size w (w6.alloc (.cells #[.int .u64 Th, .int .u64 Tl] 46)) := box2 (k5.trans (hb6.mono k5.size)) _ _
    have e0 := cell_below (below_alloc_self (.cells #[.int .u64 Th, .int .u64 Tl] 46) hb6) g0
    have e1 := cell_below (below_alloc_self (.cells #[.int .u64 Th, .int .u64 Tl] 46) hb6) g1
    have t0 : (w6.alloc (.cells #[.int .u64 Th, .int .u64 Tl] 46)).cell? ⟨w6.heap.size, 0, none⟩ = some (.int .u64 Th) := by simp [go_sem]
    have t1 : (w6.alloc (.cells #[.int .u64 Th, .int .u64 Tl] 46)).cell? ⟨w6.heap.size, 1, none⟩ = some (.int .u64 Tl) := by simp [go_sem]
    have hl96 : bx9 < w6.heap.size := Nat.lt_of_lt_of_le hl95 hb6.size
    clear HTicks k5 g0 g1 hl95
    go_upto_region 6 with fail
    clear hb6
    generalize w6.alloc (.cells #[.int .u64 Th, .int .u64 Tl] 46) = w7 at *
    generalize w6.heap.size = bx13 at *
    have hl7 := lt_of_cell e0
    have hl13 := lt_of_cell t0
    have hne : ¬ bx9 = bx13 := by omega
    have HK7 : Hid (Below w.heap.size w w7) := k7
    go_region_with (first | (go_at_call 44; refine (HAdd _).mono ?_; rintro e w8 ⟨rfl, hb8⟩; replace hb8 := below_undrew hb8) | (go_at_call 43; refine (HRen _ (HK7.out.trans (hb8.mono HK7.out.size))).mono ?_; rintro e w9 ⟨rfl, hR, hk⟩))
    all_goals go_wp2_with fail
    all_goals
      have hk9 : Kept Tt w w9 := (Kept.of_below (HK7.out.trans (hb8.mono HK7.out.size))).trans hk
      refine (lenH_none B w9 ((hk9.cell B 17 hl hT17).trans HC17.out) ((hk9.cell B 18 hl hT18).trans HC18.out)).mono ?_
      rintro e w10 ⟨rfl, q, hw10⟩
      subst w10
      clear HAdd HRen hb8 hk k7 e0 e1 t0 t1
      go_wp2_with fail
      first | go_end0 | refine bodyPost_ret (results_none rfl _ _ _) rfl ?_
      exact ⟨rfl, hRd _ q hR, hk9.drewN q⟩
  · rw [if_neg hlt] at hM
    subst hM
    have e1 : decide (L < f0) = false := by simpa using hlt
    rw [e1] at HLess
    clear e1 hlt
    generalize hiW L = Lh at *
    generalize loW L = Ll at *
    generalize hiW f0 = gh at *
    generalize loW f0 = gl at *
    generalize hiW T = Th at *
    generalize loW T = Tl at *
    go_enter Yba.func22, Yba.ntmps22
    go_wp2_with fail
    refine HTick.mono ?_
    rintro e w1 ⟨rfl, hb1⟩
    have k1 : Below w.heap.size w (w1.alloc (.cells #[.int .u64 Lh, .int .u64 Ll] 46)) := box2 hb1 _ _
    have b0 : (w1.alloc (.cells #[.int .u64 Lh, .int .u64 Ll] 46)).cell? ⟨w1.heap.size, 0, none⟩ = some (.int .u64 Lh) := by simp [go_sem]
    have b1 : (w1.alloc (.cells #[.int .u64 Lh, .int .u64 Ll] 46)).cell? ⟨w1.heap.size, 1, none⟩ = some (.int .u64 Ll) := by simp [go_sem]
    have HFi := HFind _ k1
    clear HTick hb1 HFind
    go_wp2_with fail
    generalize w1.alloc (.cells #[.int .u64 Lh, .int .u64 Ll] 46) = w2 at *
    generalize w1.heap.size = bx8 at *
    refine HFi.mono ?_
    rintro e w3 ⟨rfl, hb3⟩
    clear HFi
    have k4 : Below w.heap.size w (w3.alloc (.cells #[.int .u64 gh, .int .u64 gl] 46)) := box2 (k1.trans (hb3.mono k1.size)) _ _
    have d0 := cell_below (below_alloc_self (.cells #[.int .u64 gh, .int .u64 gl] 46) hb3) b0
    have d1 := cell_below (below_alloc_self (.cells #[.int .u64 gh, .int .u64 gl] 46) hb3) b1
    have g0 : (w3.alloc (.cells #[.int .u64 gh, .int .u64 gl] 46)).cell? ⟨w3.heap.size, 0, none⟩ = some (.int .u64 gh) := by simp [go_sem]
    have g1 : (w3.alloc (.cells #[.int .u64 gh, .int .u64 gl] 46)).cell? ⟨w3.heap.size, 1, none⟩ = some (.int .u64 gl) := by simp [go_sem]
    have z0 : (w3.alloc (.cells #[.int .u64 gh, .int .u64 gl] 46)).frozen? ⟨w3.heap.size, 0, none⟩ = false := by simp [go_sem]
    have z1 : (w3.alloc (.cells #[.int .u64 gh, .int .u64 gl] 46)).frozen? ⟨w3.heap.size, 1, none⟩ = false := by simp [go_sem]
    have hl8 : bx8 < w3.heap.size := Nat.lt_of_lt_of_le (lt_of_cell b0) hb3.size
    have hw3 : w.heap.size ≤ w3.heap.size := Nat.le_trans k1.size hb3.size
    clear b0 b1 k1
    go_wp2_with fail
    clear hb3
    generalize w3.alloc (.cells #[.int .u64 gh, .int .u64 gl] 46) = w4 at *
    generalize w3.heap.size = bx9 at *
    refine (HLess _).mono ?_
    rintro e w5 ⟨rfl, hb5⟩
    have hl9 := lt_of_cell g0
    have k5 : Below w.heap.size w w5 := k4.trans (hb5.mono k4.size)
    have hl95 : bx9 < w5.heap.size := Nat.lt_of_lt_of_le hl9 hb5.size
    have hl85 : bx8 < w5.heap.size := by omega
    replace d0 := cell_below hb5 d0
    replace d1 := cell_below hb5 d1
    replace g0 := cell_below hb5 g0
    replace g1 := cell_below hb5 g1
    replace z0 := (hb5.frozen (p := ⟨bx9, 0, none⟩) hl9).trans z0
    replace z1 := (hb5.frozen (p := ⟨bx9, 1, none⟩) hl9).trans z1
    clear HLess k4 hb5 hl9
    go_upto_region 5 with fail
    have hge : w.heap.size ≤ bx9 := hw3
    have hne8 : ¬ bx8 = bx9 := by omega
    have y0 : ((w5.setCell ⟨bx9, 0, none⟩ (.int .u64 Lh)).setCell ⟨bx9, 1, none⟩ (.int .u64 Ll)).cell? ⟨bx9, 0, none⟩ = some (.int .u64 Lh) := by simp [cell_set, g0]
    have y1 : ((w5.setCell ⟨bx9, 0, none⟩ (.int .u64 Lh)).setCell ⟨bx9, 1, none⟩ (.int .u64 Ll)).cell? ⟨bx9, 1, none⟩ = some (.int .u64 Ll) := by simp [cell_set, g1]
    have kS : Below w.heap.size w ((w5.setCell ⟨bx9, 0, none⟩ (.int .u64 Lh)).setCell ⟨bx9, 1, none⟩ (.int .u64 Ll)) := (k5.setCell hge _).setCell hge _
    have hlS : bx9 < ((w5.setCell ⟨bx9, 0, none⟩ (.int .u64 Lh)).setCell ⟨bx9, 1, none⟩ (.int .u64 Ll)).heap.size := lt_of_cell y0
    clear k5 g0 g1 d0 d1 z0 z1 hl95 hl85
    generalize (w5.setCell ⟨bx9, 0, none⟩ (.int .u64 Lh)).setCell ⟨bx9, 1, none⟩ (.int .u64 Ll) = wS at *
    have k5 := kS
    have g0 := y0
    have g1 := y1
    have hl95 := hlS
    clear kS y0 y1 hlS
    go_wp2_with fail
    refine (HTicks _ k5).mono ?_
    rintro e w6 ⟨rfl, hb6⟩
    have k7 : Below w.heap.size w (w6.alloc (.cells #[.int .u64 Th, .int .u64 Tl] 46)) := box2 (k5.trans (hb6.mono k5.size)) _ _
    have e0 := cell_below (below_alloc_self (.cells #[.int .u64 Th, .int .u64 Tl] 46) hb6) g0
    have e1 := cell_below (below_alloc_self (.cells #[.int .u64 Th, .int .u64 Tl] 46) hb6) g1
    have t0 : (w6.alloc (.cells #[.int .u64 Th, .int .u64 Tl] 46)).cell? ⟨w6.heap.size, 0, none⟩ = some (.int .u64 Th) := by simp [go_sem]
    have t1 : (w6.alloc (.cells #[.int .u64 Th, .int .u64 Tl] 46)).cell? ⟨w6.heap.size, 1, none⟩ = some (.int .u64 Tl) := by simp [go_sem]
    have hl96 : bx9 < w6.heap.size := Nat.lt_of_lt_of_le hl95 hb6.size
    clear HTicks k5 g0 g1 hl95
    go_upto_region 6 with fail
    clear hb6
    generalize w6.alloc (.cells #[.int .u64 Th, .int .u64 Tl] 46) = w7 at *
    generalize w6.heap.size = bx13 at *
    have hl7 := lt_of_cell e0
    have hl13 := lt_of_cell t0
    have hne : ¬ bx9 = bx13 := by omega
    have HK7 : Hid (Below w.heap.size w w7) := k7
    go_region_with (first | (go_at_call 44; refine (HAdd _).mono ?_; rintro e w8 ⟨rfl, hb8⟩; replace hb8 := below_undrew hb8) | (go_at_call 43; refine (HRen _ (HK7.out.trans (hb8.mono HK7.out.size))).mono ?_; rintro e w9 ⟨rfl, hR, hk⟩))
    all_goals go_wp2_with fail
    all_goals
      have hk9 : Kept Tt w w9 := (Kept.of_below (HK7.out.trans (hb8.mono HK7.out.size))).trans hk
      refine (lenH_none B w9 ((hk9.cell B 17 hl hT17).trans HC17.out) ((hk9.cell B 18 hl hT18).trans HC18.out)).mono ?_
      rintro e w10 ⟨rfl, q, hw10⟩
      subst w10
      clear HAdd HRen hb8 hk k7 e0 e1 t0 t1
      go_wp2_with fail
      first | go_end0 | refine bodyPost_ret (results_none rfl _ _ _) rfl ?_
      exact ⟨rfl, hRd _ q hR, hk9.drewN q⟩

end Go.Proofs.Ybulkaqom

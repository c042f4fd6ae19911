/-
  LawS2105BRoundTrip, walked.
-/
import Derived.Test.YbulkaqomR4
import Derived.Test.YbulkaqomE
namespace Go.Proofs.Ybulkaqom
open Go.RowKit Go.ChangeMaps

/-- What the law knows of its buckets behind the first take. -/
structure Taken (w w0 : World) (B r pn pu : Nat) (f : Int) : Prop where
  full : Full w B r false false f f
  c14 : w.cell? ⟨B, 14, none⟩ = some (.int .u64 pn)
  c15 : w.cell? ⟨B, 15, none⟩ = some (.int .u64 pu)
  c17 : w.cell? ⟨B, 17, none⟩ = some (.map none)
  c18 : w.cell? ⟨B, 18, none⟩ = some (.map none)
  c19 : w.cell? ⟨B, 19, none⟩ = some (.int .i64 0)
  z17 : w.frozen? ⟨B, 17, none⟩ = false
  z19 : w.frozen? ⟨B, 19, none⟩ = false
  bel : Below B w0 w

theorem Taken.kept {T : Nat → Nat → Prop} {w w' w0 : World} {B r pn pu : Nat} {f : Int} (h : Taken w w0 B r pn pu f) (k : Kept T w w') (hB : ∀ o, ¬ T B o) (hr : ∀ o, ¬ T r o) (hl : ∀ x o, x < B → ¬ T x o) : Taken w' w0 B r pn pu f := by
  have hlB := h.full.ltB
  exact ⟨h.full.kept k (fun o _ _ => hB o) hr, (k.cell B 14 hlB (hB _)).trans h.c14, (k.cell B 15 hlB (hB _)).trans h.c15, (k.cell B 17 hlB (hB _)).trans h.c17, (k.cell B 18 hlB (hB _)).trans h.c18, (k.cell B 19 hlB (hB _)).trans h.c19, (k.frozen B 17 hlB).trans h.z17, (k.frozen B 19 hlB).trans h.z19, h.bel.trans (k.below hl (by omega))⟩

theorem Taken.below {w w' w0 : World} {B r pn pu : Nat} {f : Int} (h : Taken w w0 B r pn pu f) (k : Below w.heap.size w w') : Taken w' w0 B r pn pu f :=
  h.kept (Kept.of_below (T := Nothing) k) (fun _ x => x) (fun _ x => x) (fun _ _ _ x => x)

theorem Taken.refull {w w' w0 : World} {B r pn pu : Nat} {f : Int} (h : Taken w w0 B r pn pu f) (k : Kept (Blk r) w w') (hbr : B < r) (hF : Full w' B r false false f f) : Taken w' w0 B r pn pu f := by
  have hlB := h.full.ltB
  have hB : ∀ o, ¬ Blk r B o := fun o x => by have : B = r := x; omega
  exact ⟨hF, (k.cell B 14 hlB (hB _)).trans h.c14, (k.cell B 15 hlB (hB _)).trans h.c15, (k.cell B 17 hlB (hB _)).trans h.c17, (k.cell B 18 hlB (hB _)).trans h.c18, (k.cell B 19 hlB (hB _)).trans h.c19, (k.frozen B 17 hlB).trans h.z17, (k.frozen B 19 hlB).trans h.z19, h.bel.trans (k.below (fun x o hx e => by have : x = r := e; omega) (by omega))⟩

set_option maxRecDepth 100000 in
set_option maxHeartbeats 1600000 in
theorem round_zero (pn0 pu0 prior pn pu : Nat) (now L T1 : Int) (w : World) (hpn : (pn0 : Int) + 1 = (pn : Int)) (hpu : (pu0 : Int) + 1 = (pu : Int)) (h0 : pn0 ≤ 255) (h1 : pu0 ≤ 65535) (h2 : prior ≤ 4294967295) (hna : -9223372036854775808 ≤ now) (hnb : now ≤ 9223372036854775807)
    (HLv : Hid ((now + 9223372036854775808) * (pn : Int) = L)) (HT1 : Hid ((prior : Int) * (pu : Int) = T1)) (hb : 0 ≤ L ∧ 0 ≤ T1 ∧ L ≤ 4722366482869645213696 ∧ T1 ≤ 281474976710656) :
    Calls Yba.prog 6 #[.int .u8 pn0, .int .u16 pu0, .int .i64 now, .int .u32 prior, .int .u32 0] w fun e w' => e = .returned (.bool true) ∧ Below w.heap.size w w' := by
  have hcs : (pn0 : Int) + 1 = (pn : Int) := hpn
  have hcu : (pu0 : Int) + 1 = (pu : Int) := hpu
  have hpb : pn ≤ 256 ∧ pu ≤ 65536 := by omega
  clear hpn hpu
  go_enter Yba.func6, Yba.ntmps6
  go_wp2_with fail
  refine (take_bare w.heap.size prior pn pu now L T1 _ ⟨by simp [go_sem], by simp [go_sem], by simp [go_sem], by simp [go_sem], by simp [go_sem], by simp [go_sem], by simp [go_sem], by simp [go_sem], by simp [go_sem], by simp [go_sem]⟩ (by simp [go_sem]) (by simp [go_sem]) (by simp [go_sem]) (by simp [go_sem]) (by omega) (by omega) (by omega) hna hnb HLv.out HT1.out hb.1 hb.2.1 (by omega)).mono ?_
  rintro e w1 ⟨rfl, ⟨r, hr, hF⟩, hk⟩
  have hTk : Hid (Taken w1 w w.heap.size r pn pu (L + T1) ∧ w.heap.size < r) := by
    have hn : ∀ j, j ≠ 5 → j ≠ 10 → j ≠ 11 → ¬ AtFull w.heap.size w.heap.size j := fun j a b c x => by rcases x.2 with h | h | h <;> omega
    have C := fun j (h1 : j ≠ 5) (h2 : j ≠ 10) (h3 : j ≠ 11) => hk.cell w.heap.size j (by simp) (hn j h1 h2 h3)
    have Z := fun j => hk.frozen w.heap.size j (by simp)
    refine ⟨⟨hF, (C 14 (by omega) (by omega) (by omega)).trans (by simp [go_sem]), (C 15 (by omega) (by omega) (by omega)).trans (by simp [go_sem]), (C 17 (by omega) (by omega) (by omega)).trans (by simp [go_sem]), (C 18 (by omega) (by omega) (by omega)).trans (by simp [go_sem]), (C 19 (by omega) (by omega) (by omega)).trans (by simp [go_sem]), (Z 17).trans (by simp [go_sem]), (Z 19).trans (by simp [go_sem]), ?_⟩, by simp at hr; omega⟩
    exact ((Below.refl w.heap.size w).alloc (Nat.le_refl _) _).trans (hk.below (fun k o hk x => by have := x.1; omega) (by simp))
  clear hr hF hk hcs hcu
  have HFt := ftick_any w.heap.size r false false (L + T1) (L + T1) w1 hTk.out.1.full
  have HU : ∃ a b, a = hiW (L + T1) ∧ b = loW (L + T1) := ⟨_, _, rfl, rfl⟩
  obtain ⟨Uh, Ul, hUh, hUl⟩ := HU
  unfold U at HFt
  rw [← hUh, ← hUl] at HFt
  have HW : Hid (Uh = hiW (L + T1) ∧ Ul = loW (L + T1)) := ⟨hUh, hUl⟩
  clear hUh hUl
  go_wp2_with fail
  refine HFt.mono ?_
  rintro e w2 ⟨rfl, hb2⟩
  have hb3 : Below w1.heap.size w1 (w2.alloc (.cells #[.int .u64 Uh, .int .u64 Ul] 46)) := box2 hb2 _ _
  have b0 : (w2.alloc (.cells #[.int .u64 Uh, .int .u64 Ul] 46)).cell? ⟨w2.heap.size, 0, none⟩ = some (.int .u64 Uh) := by simp [go_sem]
  have b1 : (w2.alloc (.cells #[.int .u64 Uh, .int .u64 Ul] 46)).cell? ⟨w2.heap.size, 1, none⟩ = some (.int .u64 Ul) := by simp [go_sem]
  have hT3 : Taken (w2.alloc (.cells #[.int .u64 Uh, .int .u64 Ul] 46)) w w.heap.size r pn pu (L + T1) := hTk.out.1.below hb3
  have hbr : w.heap.size < r := hTk.out.2
  have hrl : r < w2.heap.size := Nat.lt_of_lt_of_le (has_lt hTk.out.1.full.has) hb2.size
  clear HFt hb2 hb3 hTk
  go_wp2_with fail
  generalize w2.alloc (.cells #[.int .u64 Uh, .int .u64 Ul] 46) = w3 at *
  generalize w2.heap.size = bx at *
  refine (hold_zero w.heap.size r pn pu now L (L + T1) (L + T1) w3 hT3.full hT3.c14 hT3.c15 hT3.c17 hT3.c18 (by omega) (by omega) hna hnb HLv.out hb.1 (by omega)).mono ?_
  rintro e w4 ⟨rfl, hF4, hk4⟩
  have hT4 := hT3.refull hk4 hbr hF4
  have hlx := lt_of_cell b0
  have hnx : ∀ o, ¬ Blk r bx o := fun o x => by have : bx = r := x; omega
  replace b0 := (hk4.cell bx 0 hlx (hnx _)).trans b0
  replace b1 := (hk4.cell bx 1 hlx (hnx _)).trans b1
  have hb5 : Below w4.heap.size w4 (w4.alloc (.cells #[.int .i64 0, .int .u64 0, .int .u64 0, .int .i64 0] 62)) := (Below.refl _ _).alloc (Nat.le_refl _) _
  have hT5 := hT4.below hb5
  have hbG : Below (w4.alloc (.cells #[.int .i64 0, .int .u64 0, .int .u64 0, .int .i64 0] 62)).heap.size (w4.alloc (.cells #[.int .i64 0, .int .u64 0, .int .u64 0, .int .i64 0] 62)) ((w4.alloc (.cells #[.int .i64 0, .int .u64 0, .int .u64 0, .int .i64 0] 62)).alloc (.cells #[.int .i64 0, .int .u64 0, .int .u64 0, .int .i64 0] 62)) := (Below.refl _ _).alloc (Nat.le_refl _) _
  have hT6 := hT5.below hbG
  have HG := give_zero w.heap.size (.pointer none) false false 0 0 0 0 (w4.alloc (.cells #[.int .i64 0, .int .u64 0, .int .u64 0, .int .i64 0] 62)) (findH_none w.heap.size _ hT6.c17 hT6.c18)
  replace b0 := cell_below hb5 b0
  replace b1 := cell_below hb5 b1
  have HT5 : Hid (Taken (w4.alloc (.cells #[.int .i64 0, .int .u64 0, .int .u64 0, .int .i64 0] 62)) w w.heap.size r pn pu (L + T1)) := hT5
  clear hT3 hF4 hk4 hT4 hb5 hT5 hbG hT6
  go_wp2_with fail
  generalize w4.alloc (.cells #[.int .i64 0, .int .u64 0, .int .u64 0, .int .i64 0] 62) = w5 at *
  refine HG.mono ?_
  rintro e w6 ⟨rfl, hb6⟩
  replace b0 := cell_below hb6 b0
  replace b1 := cell_below hb6 b1
  have hT6 := HT5.out.below hb6
  have hlx6 := lt_of_cell b0
  have HT6 : Hid (Taken w6 w w.heap.size r pn pu (L + T1)) := hT6
  have HFt : ∀ wx, Below w6.heap.size w6 wx → Calls Yba.prog 23 #[.pointer (some ⟨w.heap.size, 0, none⟩), .string kk] wx fun e w' => e = .returned (.agg #[.int .u64 Uh, .int .u64 Ul]) ∧ Below wx.heap.size wx w' := fun wx k => by
    have h := ftick_any w.heap.size r false false (L + T1) (L + T1) wx (HT6.out.below k).full
    obtain ⟨e1, e2⟩ := HW.out
    subst e1 e2
    exact h
  have HLn : ∀ wx, Below w6.heap.size w6 wx → Calls Yba.prog 21 #[.pointer (some ⟨w.heap.size, 17, none⟩)] wx fun e w' => e = .returned (.int .i64 0) ∧ ∃ q, w' = wx.drewN q := fun wx k => lenH_none w.heap.size wx (HT6.out.below k).c17 (HT6.out.below k).c18
  have hEq := eql_words
  clear HG hT6 hb6 HT5
  go_upto_region 7 with fail
  go_region_with (first | (go_at_call 23; refine (HFt _ (below_drew1 (Below.refl _ _))).mono ?_; rintro e w7 ⟨rfl, hb7⟩; replace hb7 := below_undrew1 hb7; have v0 := cell_below hb7 b0; have v1 := cell_below hb7 b1) | (go_at_call 21; refine (HLn _ hb7).mono ?_; rintro e w8 ⟨rfl, q, hw8⟩; subst w8))
  all_goals go_wp2_with fail
  all_goals
    go_ret
    exact ⟨by first | rfl | (simp [go_sem]; done) | simp, below_drewN (HT6.out.bel.trans (hb7.mono HT6.out.bel.size)) _⟩
set_option maxRecDepth 100000 in
set_option maxHeartbeats 1600000 in
theorem round_main (pn0 pu0 prior spend pn pu : Nat) (now L T1 T2 : Int) (w : World) (hpn : (pn0 : Int) + 1 = (pn : Int)) (hpu : (pu0 : Int) + 1 = (pu : Int)) (h0 : pn0 ≤ 255) (h1 : pu0 ≤ 65535) (h2 : prior ≤ 4294967295) (hna : -9223372036854775808 ≤ now) (hnb : now ≤ 9223372036854775807)
    (HLv : Hid ((now + 9223372036854775808) * (pn : Int) = L)) (HT1 : Hid ((prior : Int) * (pu : Int) = T1)) (HT2 : Hid ((spend : Int) * (pu : Int) = T2)) (hspb : ((spend : Int) == 0) = false) (h3 : spend ≤ 4294967295) (hb : 0 ≤ L ∧ 0 ≤ T1 ∧ L ≤ 4722366482869645213696 ∧ T1 ≤ 281474976710656) (hb2 : 1 ≤ T2 ∧ T2 ≤ 281474976710656) :
    Calls Yba.prog 6 #[.int .u8 pn0, .int .u16 pu0, .int .i64 now, .int .u32 prior, .int .u32 spend] w fun e w' => e = .returned (.bool true) ∧ Below w.heap.size w w' := by
  have hcs : (pn0 : Int) + 1 = (pn : Int) := hpn
  have hcu : (pu0 : Int) + 1 = (pu : Int) := hpu
  have hpb : pn ≤ 256 ∧ pu ≤ 65536 := by omega
  clear hpn hpu
  go_enter Yba.func6, Yba.ntmps6
  go_wp2_with fail
  refine (take_bare w.heap.size prior pn pu now L T1 _ ⟨by simp [go_sem], by simp [go_sem], by simp [go_sem], by simp [go_sem], by simp [go_sem], by simp [go_sem], by simp [go_sem], by simp [go_sem], by simp [go_sem], by simp [go_sem]⟩ (by simp [go_sem]) (by simp [go_sem]) (by simp [go_sem]) (by simp [go_sem]) (by omega) (by omega) (by omega) hna hnb HLv.out HT1.out hb.1 hb.2.1 (by omega)).mono ?_
  rintro e w1 ⟨rfl, ⟨r, hr, hF⟩, hk⟩
  have hTk : Hid (Taken w1 w w.heap.size r pn pu (L + T1) ∧ w.heap.size < r) := by
    have hn : ∀ j, j ≠ 5 → j ≠ 10 → j ≠ 11 → ¬ AtFull w.heap.size w.heap.size j := fun j a b c x => by rcases x.2 with h | h | h <;> omega
    have C := fun j (h1 : j ≠ 5) (h2 : j ≠ 10) (h3 : j ≠ 11) => hk.cell w.heap.size j (by simp) (hn j h1 h2 h3)
    have Z := fun j => hk.frozen w.heap.size j (by simp)
    refine ⟨⟨hF, (C 14 (by omega) (by omega) (by omega)).trans (by simp [go_sem]), (C 15 (by omega) (by omega) (by omega)).trans (by simp [go_sem]), (C 17 (by omega) (by omega) (by omega)).trans (by simp [go_sem]), (C 18 (by omega) (by omega) (by omega)).trans (by simp [go_sem]), (C 19 (by omega) (by omega) (by omega)).trans (by simp [go_sem]), (Z 17).trans (by simp [go_sem]), (Z 19).trans (by simp [go_sem]), ?_⟩, by simp at hr; omega⟩
    exact ((Below.refl w.heap.size w).alloc (Nat.le_refl _) _).trans (hk.below (fun k o hk x => by have := x.1; omega) (by simp))
  clear hr hF hk hcs hcu
  have HFt := ftick_any w.heap.size r false false (L + T1) (L + T1) w1 hTk.out.1.full
  have HU : ∃ a b, a = hiW (L + T1) ∧ b = loW (L + T1) := ⟨_, _, rfl, rfl⟩
  obtain ⟨Uh, Ul, hUh, hUl⟩ := HU
  unfold U at HFt
  rw [← hUh, ← hUl] at HFt
  have HW : Hid (Uh = hiW (L + T1) ∧ Ul = loW (L + T1)) := ⟨hUh, hUl⟩
  clear hUh hUl
  go_wp2_with fail
  refine HFt.mono ?_
  rintro e w2 ⟨rfl, hb2⟩
  have hb3 : Below w1.heap.size w1 (w2.alloc (.cells #[.int .u64 Uh, .int .u64 Ul] 46)) := box2 hb2 _ _
  have b0 : (w2.alloc (.cells #[.int .u64 Uh, .int .u64 Ul] 46)).cell? ⟨w2.heap.size, 0, none⟩ = some (.int .u64 Uh) := by simp [go_sem]
  have b1 : (w2.alloc (.cells #[.int .u64 Uh, .int .u64 Ul] 46)).cell? ⟨w2.heap.size, 1, none⟩ = some (.int .u64 Ul) := by simp [go_sem]
  have hT3 : Taken (w2.alloc (.cells #[.int .u64 Uh, .int .u64 Ul] 46)) w w.heap.size r pn pu (L + T1) := hTk.out.1.below hb3
  have hbr : w.heap.size < r := hTk.out.2
  have hrl : r < w2.heap.size := Nat.lt_of_lt_of_le (has_lt hTk.out.1.full.has) hb2.size
  clear HFt hb2 hb3 hTk
  go_wp2_with fail
  generalize w2.alloc (.cells #[.int .u64 Uh, .int .u64 Ul] 46) = w3 at *
  generalize w2.heap.size = bx at *
  refine (hold_main w.heap.size r spend pn pu now L T2 (L + T1) (L + T1) w3 hT3.full hspb hT3.c14 hT3.c15 hT3.c17 hT3.c18 hT3.c19 hT3.z17 hT3.z19 (by omega) (by omega) (by omega) hna hnb HLv.out HT2.out hb.1 (by omega) (by omega) (by omega) (by omega)).mono ?_
  rintro e w4 ⟨rfl, r2, hd, hr2, hhd, hBk4, hbel4⟩
  have hlx := lt_of_cell b0
  have hlB3 := hT3.full.ltB
  have hbelW : Below w.heap.size w w4 := hT3.bel.trans (hbel4.below (fun k o hk x => by rcases x with h | h <;> omega) (by omega))
  have hnx : ∀ o, ¬ OrB r w.heap.size bx o := fun o x => by rcases x with h | h <;> omega
  replace b0 := (hbel4.cell bx 0 hlx (hnx _)).trans b0
  replace b1 := (hbel4.cell bx 1 hlx (hnx _)).trans b1
  have hb5 : Below w4.heap.size w4 (w4.alloc (.cells #[.int .i64 1, .int .u64 (hiW T2), .int .u64 (loW T2), .int .i64 0] 62)) := (Below.refl _ _).alloc (Nat.le_refl _) _
  have hBk5 := hBk4.below hb5
  have eN : newF (L + T1 + T2) L (T2 - T2) T2 = L + T1 := by
    unfold newF
    split
    · split <;> omega
    · omega
  have HG := give_main w.heap.size r r2 hd false false (L + T1) (L + T1 + T2) L T2 spend pn pu 1 T2 T2 now 1 0 _ hspb hBk5 (by omega) (by omega) (by omega) (by omega) (Int.le_refl _) (by omega) hna hnb HLv.out hb.1 (by omega) HT2.out (by omega) (Int.le_refl _) (Int.le_refl _) (by omega) (fun _ => by rw [eN]; exact Int.le_refl _)
  rw [eN] at HG
  replace b0 := cell_below hb5 b0
  replace b1 := cell_below hb5 b1
  have HBel5 : Hid (Below w.heap.size w (w4.alloc (.cells #[.int .i64 1, .int .u64 (hiW T2), .int .u64 (loW T2), .int .i64 0] 62))) := hbelW.trans (hb5.mono hbelW.size)
  have hlx5 := lt_of_cell b0
  clear hT3 hBk4 hbel4 hb5 hBk5 hbelW eN hnx
  generalize hiW T2 = Th at *
  generalize loW T2 = Tl at *
  go_wp2_with fail
  generalize w4.alloc (.cells #[.int .i64 1, .int .u64 Th, .int .u64 Tl, .int .i64 0] 62) = w5 at *
  refine HG.mono ?_
  rintro e w6 ⟨rfl, hF6, -, hH6, hE6, -, -, hk6⟩
  replace hE6 : Emp w6 r2 := by simpa using hE6
  have hnx6 : ∀ o, ¬ May r hd r2 bx o := fun o x => by rcases x with h | h | h <;> (have h : _ = _ := h; omega)
  replace b0 := (hk6.cell bx 0 hlx5 (hnx6 _)).trans b0
  replace b1 := (hk6.cell bx 1 hlx5 (hnx6 _)).trans b1
  have hlx6 := lt_of_cell b0
  have HBel6 : Hid (Below w.heap.size w w6) := HBel5.out.trans (hk6.below (fun k o hk x => by rcases x with h | h | h <;> (have h : _ = _ := h; omega)) HBel5.out.size)
  have HF6 : Hid (Full w6 w.heap.size r false false (L + T1) (L + T1)) := hF6
  have HH6 : Hid (HeldAt w6 w.heap.size r2 false ∧ Emp w6 r2) := ⟨hH6, hE6⟩
  have HFt : ∀ wx, Below w6.heap.size w6 wx → Calls Yba.prog 23 #[.pointer (some ⟨w.heap.size, 0, none⟩), .string kk] wx fun e w' => e = .returned (.agg #[.int .u64 Uh, .int .u64 Ul]) ∧ Below wx.heap.size wx w' := fun wx k => by
    have h := ftick_any w.heap.size r false false (L + T1) (L + T1) wx (HF6.out.below k)
    obtain ⟨e1, e2⟩ := HW.out
    subst e1 e2
    exact h
  have HLn : ∀ wx, Below w6.heap.size w6 wx → Calls Yba.prog 21 #[.pointer (some ⟨w.heap.size, 17, none⟩)] wx fun e w' => e = .returned (.int .i64 0) ∧ ∃ q, w' = wx.drewN q := fun wx k => by
    have kk0 : Kept Nothing w6 wx := Kept.of_below k
    exact hlen_any w.heap.size r2 0 false wx (HH6.out.1.kept kk0 (fun x => x) (fun x => x)) (emp_len (HH6.out.2.kept kk0 (fun _ x => x))) (by omega)
  have hEq := eql_words
  clear HG hF6 hH6 hE6 hk6 HBel5
  go_upto_region 7 with fail
  go_region_with (first | (go_at_call 23; refine (HFt _ (below_drew1 (Below.refl _ _))).mono ?_; rintro e w7 ⟨rfl, hb7⟩; replace hb7 := below_undrew1 hb7; have v0 := cell_below hb7 b0; have v1 := cell_below hb7 b1) | (go_at_call 21; refine (HLn _ hb7).mono ?_; rintro e w8 ⟨rfl, q, hw8⟩; subst w8))
  all_goals go_wp2_with fail
  all_goals
    go_ret
    exact ⟨by first | rfl | (simp [go_sem]; done) | simp, below_drewN (HBel6.out.trans (hb7.mono HBel6.out.size)) _⟩
end Go.Proofs.Ybulkaqom

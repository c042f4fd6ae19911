/-
  (*indexSet).add where the second level is made.
-/
import Derived.Test.YbulkaqnyDoorAdd3
namespace Go.Proofs.YbulkaqnyDoor
open Go.RowKit Go.Lib
variable {n : Nat} {w : World} {F : List Nat} {b o : Nat} {f : Nat → Nat}

/-- The world behind 's.more = &indexMore{}'. -/
def madeWorld (w : World) (b o : Nat) : World := (w.setCell ⟨b, o + 1, none⟩ (.pointer (some ⟨w.heap.size, 0, none⟩))).alloc (.cells #[.slice none 0 0, .int .u64 0, .pointer none] 40)

theorem IsSet.leaf (h : Leaf w F b o f) : IsSet n w F b o f := by
  cases n with
  | zero => exact h
  | succ n => exact .inl h

/-- A set whose second level is made, its row of words still nil. -/
structure Pre (n : Nat) (w0 w : World) (F : List Nat) (b o : Nat) (f : Nat → Nat) (bm : Nat) (F2 : List Nat) (g : Nat → Nat) : Prop where
  low : w.cell? ⟨b, o, none⟩ = some (.int .u64 (f 0))
  lowF : w.frozen? ⟨b, o, none⟩ = false
  moreF : w.frozen? ⟨b, o + 1, none⟩ = false
  small : ∀ k, f k < 18446744073709551616
  more : w.cell? ⟨b, o + 1, none⟩ = some (.pointer (some ⟨bm, 0, none⟩))
  highF : w.frozen? ⟨bm, 0, none⟩ = false
  high : w.cell? ⟨bm, 0, none⟩ = some (.slice none 0 0)
  up : IsSet n w F2 bm 1 g
  nodup : (b :: bm :: F2).Nodup
  lb : b < w.heap.size
  zero : ∀ k, 0 < k → f k = 0
  kept : Kept (Foot b o F) w0 w
  new : ∀ x ∈ bm :: F2, w0.heap.size ≤ x

theorem Leaf.made (h : Leaf w F b o f) : Pre n w (madeWorld w b o) F b o f w.heap.size [] (fun _ => 0) := by
  have lb : b < w.heap.size := h.toBase.lt b (by simp)
  have hk : Kept (fun x y => x = b ∧ y = o + 1) w (madeWorld w b o) := ((Kept.refl _ w).setCell (.inl ⟨rfl, rfl⟩) _).alloc _
  have hsz : w.heap.size = (w.setCell ⟨b, o + 1, none⟩ (.pointer (some ⟨w.heap.size, 0, none⟩))).heap.size := by simp [World.setCell]
  have cnew : ∀ j, (madeWorld w b o).cell? ⟨w.heap.size, j, none⟩ = (#[.slice none 0 0, .int .u64 0, .pointer none] : Array Value)[j]? := fun j => World.cell?_alloc_at _ _ _ _ hsz
  have fnew : ∀ j, (madeWorld w b o).frozen? ⟨w.heap.size, j, none⟩ = false := fun j => World.frozen?_alloc_at _ _ _ _ hsz
  have hs : w.heap.size < (madeWorld w b o).heap.size := by simp [madeWorld, World.setCell]
  refine ⟨(hk.cell b o lb (by simp)).trans h.toBase.low, (hk.frozen b o lb).trans h.toBase.lowF, (hk.frozen b (o + 1) lb).trans h.toBase.moreF, h.toBase.small, ?_, fnew 0, cnew 0, ?_, ?_, by omega, h.zero, hk.mono ?_, by simp⟩
  · exact (World.cell?_alloc_lt _ _ _ (by rw [← hsz]; exact lb)).trans (cell_set_same h.more)
  · exact IsSet.leaf ⟨⟨cnew 1, fnew 1, fnew 2, by simp, by simp, by simp [hs]⟩, cnew 2, fun _ _ => rfl, rfl⟩
  · simp; omega
  · rintro k j _ ⟨rfl, rfl⟩
    exact .inl ⟨rfl, .inr rfl⟩

theorem Pre.above {w1 w2 : World} {bm : Nat} {F2 F3 : List Nat} {g g3 : Nat → Nat} (h : Pre n w w1 F b o f bm F2 g) (hs : IsSet n w2 F3 bm 1 g3) (hK : Kept (Foot bm 1 F2) w1 w2) (hF3 : ∀ x ∈ F3, x ∈ F2 ∨ w1.heap.size ≤ x) : Pre n w w2 F b o f bm F3 g3 := by
  have hn := h.nodup
  have lm : bm < w1.heap.size := h.up.base.lt bm (by simp)
  simp only [List.nodup_cons, List.mem_cons, not_or] at hn
  obtain ⟨⟨n1, n2⟩, n3, n4⟩ := hn
  have hb : ∀ j, ¬ Foot bm 1 F2 b j := by
    rintro j (⟨x, _⟩ | x)
    · exact n1 x
    · exact n2 x
  have hm : ¬ Foot bm 1 F2 bm 0 := by
    rintro (⟨_, x⟩ | x)
    · omega
    · exact n3 x
  have hb3 := hs.base.nodup
  simp only [List.nodup_cons] at hb3
  have hsz := h.kept.size
  have lb := h.lb
  refine ⟨(hK.cell b o lb (hb _)).trans h.low, (hK.frozen b o lb).trans h.lowF, (hK.frozen b (o + 1) lb).trans h.moreF, h.small, (hK.cell b (o + 1) lb (hb _)).trans h.more, (hK.frozen bm 0 lm).trans h.highF, (hK.cell bm 0 lm hm).trans h.high, hs, ?_, Nat.lt_of_lt_of_le h.lb hK.size, h.zero, ?_, ?_⟩
  · simp only [List.nodup_cons, List.mem_cons, not_or]
    refine ⟨⟨n1, fun x => ?_⟩, hb3⟩
    rcases hF3 b x with y | y
    · exact n2 y
    · omega
  · refine h.kept.trans' hK ?_
    rintro k j hk (⟨rfl, _⟩ | x)
    · have := h.new k (by simp); omega
    · have := h.new k (by simp [x]); omega
  · intro x hx
    simp only [List.mem_cons] at hx
    rcases hx with rfl | hx
    · exact h.new x (by simp)
    · rcases hF3 x hx with y | y
      · exact h.new x (by simp [y])
      · omega

/-- slices.Grow of the nil row. -/
theorem Pre.grow {w2 : World} {bm : Nat} {F2 : List Nat} {g : Nat → Nat} (h : Pre n w w2 F b o f bm F2 g) (k : Nat) (hk : k ≤ 100000) (W : World) (hW : Kept (fun _ _ => False) w2 W) :
    Calls Ybad.prog 7 #[.slice none 0 0, .int .i64 ((k : Int) + 1)] W fun e w1 => ∃ bh2 c2 cs2, e = .returned (.slice (some ⟨bh2, 0, none⟩) 0 c2) ∧
      w1.cell? ⟨b, o + 1, none⟩ = some (.pointer (some ⟨bm, 0, none⟩)) ∧ w1.cell? ⟨bm, 0, none⟩ = some (.slice none 0 0) ∧ w1.frozen? ⟨bm, 0, none⟩ = false ∧
      (0 : Int) ≤ (k : Int) + 1 ∧ (k : Int) + 1 ≤ (c2 : Int) ∧ c2 ≤ 9223372036854775807 ∧ Hid (Row w1 bh2 c2 cs2 ∧ w2.heap.size ≤ bh2 ∧ Kept (fun _ _ => False) w2 w1) := by
  have lm : bm < w2.heap.size := h.up.base.lt bm (by simp)
  have hgr := grow_nil (k + 1) W (by omega) (by omega)
  rw [show ((k + 1 : Nat) : Int) = (k : Int) + 1 by omega] at hgr
  refine hgr.mono ?_
  rintro e w1 ⟨bh2, c2, cs2, rfl, hr2, hc2, _, hwh, hK⟩
  have hK2 := hW.trans hK
  refine ⟨bh2, c2, cs2, rfl, (hK2.cell _ _ h.lb (fun h => h)).trans h.more, (hK2.cell _ _ lm (fun h => h)).trans h.high, (hK2.frozen _ _ lm).trans h.highF, by omega, by omega, hr2.capb, hr2, ?_, hK2⟩
  rcases hwh with e | e
  · exact e.elim
  · have := hW.size; omega

/-- The set behind the growth of the nil row. -/
theorem Pre.regrown {w1 w2 : World} {bm bh c k : Nat} {F2 cs : List Nat} {g : Nat → Nat} (h : Pre n w w2 F b o f bm F2 g) (hr : Row w1 bh c cs) (hwh : w2.heap.size ≤ bh) (hK : Kept (fun _ _ => False) w2 w1) (hc : k + 1 ≤ c) :
    Node (IsSet n (regrownWorld w1 bm bh 0 k c)) (regrownWorld w1 bm bh 0 k c) (bm :: bh :: F2) b o f bm bh (k + 1) c (regrown cs 0 k c) F2 g ∧ Kept (Foot b o F) w (regrownWorld w1 bm bh 0 k c) ∧
    (∀ x ∈ bm :: bh :: F2, x ∈ F ∨ w.heap.size ≤ x) ∧ bm ≠ bh := by
  have hlt := h.up.base.lt
  have lb := h.lb
  have hbh : bh ∉ b :: bm :: F2 := by
    intro hm
    simp only [List.mem_cons] at hm
    rcases hm with e | hm
    · omega
    · have := hlt bh (by simpa using hm); omega
  have lm := hlt bm (by simp)
  refine ⟨regrown_node h.low h.lowF h.moreF h.small h.more h.highF h.high h.up h.nodup h.lb hK hr hbh hc (Nat.zero_le _) (fun j hj => by omega) h.zero, ?_, ?_, by omega⟩
  · refine h.kept.trans' (T' := fun x y => (x = bm ∧ y = 0) ∨ x = bh) ((hK.mono (fun _ _ _ x => x.elim)).trans regrown_kept) ?_
    have := h.kept.size
    rintro x y hx (⟨rfl, _⟩ | rfl)
    · have := h.new x (by simp); omega
    · omega
  · intro x hx
    have := h.kept.size
    simp only [List.mem_cons] at hx
    rcases hx with rfl | rfl | hx
    · exact .inr (h.new x (by simp))
    · exact .inr (by omega)
    · exact .inr (h.new x (by simp [hx]))

theorem bits_none (h : ∀ k, 0 < k → f k = 0) (h0 : f 0 = 0) : Bits (fun _ => 0) f := by
  intro k
  rcases Nat.eq_zero_or_pos k with rfl | hk
  · simp [h0]
  · simp [h k hk]

theorem bits_one (h : ∀ k, 0 < k → f k = 0) (h0 : f 0 ≠ 0) : Bits (put (fun _ => 0) (0 : Int).toNat) f := by
  intro k
  rw [put_bit]
  rcases Nat.eq_zero_or_pos k with rfl | hk
  · simp [h0]
  · simp [h k hk]; omega

set_option maxHeartbeats 2000000 in
theorem add_made_zero (ih : AddAt n) (h : Leaf w F b o f) (i k : Nat) (hi : i / 64 = k + 1) (hk2 : k ≤ 100000) (hk3 : ((k : Int) + 1) < 64 ^ (n + 1)) (hz : f 0 = 0) :
    Calls Ybad.prog 4 #[.pointer (some ⟨b, o, none⟩), .int .i64 i] w (Added (n + 1) w F b o f i) := by
  have lb : b < w.heap.size := h.toBase.lt b (by simp)
  have hP := h.made (n := n)
  have hb := bits_none h.zero hz
  have hl := h.toBase.low
  rw [hz] at hl
  have hm := h.more
  have hmf := h.toBase.moreF
  have e1 : (i : Int) / 64 = (k : Int) + 1 := by omega
  have HI : Hid (i / 64 = k + 1) := hi
  have HK : Hid (((k : Int) + 1) < 64 ^ (n + 1)) := hk3
  have HZ : Hid (f 0 = 0) := hz
  clear hi hk3 hz
  obtain ⟨w2, hw2⟩ : ∃ w2, w2 = madeWorld w b o := ⟨_, rfl⟩
  rw [← hw2] at hP
  unfold madeWorld at hw2
  have HW2 := hw2
  have HX : Hid (w2 = (w.setCell ⟨b, o + 1, none⟩ (.pointer (some ⟨w.heap.size, 0, none⟩))).alloc (.cells #[.slice none 0 0, .int .u64 0, .pointer none] 40)) := hw2
  clear HW2 hw2
  go_enter Ybad.func4, Ybad.ntmps4
  go_wp2_with fail
  rw [← HX.out]
  clear HX hl hm hmf
  have hm := hP.more
  have hh := hP.high
  have HW : Hid (IntKind.i64.wrap ((k : Int) + 1) = (k : Int) + 1) := by
    show _ = _
    rw [IntKind.wrap_i64]; omega
  have HG := hP.grow k hk2
  have g0 : (0 : Int) ≤ (k : Int) + 1 := by omega
  go_region_with (first | (go_at_call 7; rw [HW.out]; refine (HG _ ((Kept.refl _ _).drew)).mono ?_; rintro e w1 ⟨bh2, c2, cs2, rfl, g1, g2, g3, g0, g4, g5, hG⟩))
  all_goals
    obtain ⟨hr2, hwh, hK2⟩ := hG.out
    obtain ⟨hN, hKK, hFF, hne⟩ := hP.regrown hr2 hwh hK2 (k := k) (by omega)
    have hcl := clear_run w1 _ bh2 0 k c2 cs2 hr2 hne (by omega) (Nat.zero_le _)
    simp only [Nat.sub_zero] at hcl
    go_wp2_with (simp only [hcl])
    have hm3 := hN.more
    have hh3 := hN.high
    refine (at_pos b o _ bh2 (k + 1) c2 _ _ hm3 hh3 (by omega) (by omega) (by omega)).mono ?_
    rintro e w' ⟨rfl, rfl⟩
    have hl3 := hN.rw'.row k (by omega)
    rw [hN.is k (by omega), hP.zero (k + 1) (by omega)] at hl3
    go_wp2_with fail
    refine (ih _ _ _ 1 _ ((k : Int) + 1) hN.up (by omega) HK.out).mono ?_
    rintro e w4 ⟨rfl, F4, hs, hK, hF2⟩
    have hN4 := hN.above hs hK hF2
    have hB := bits_put (i := i) hb
    rw [show i / 64 = ((k : Int) + 1).toNat by have := HI.out; omega] at hB
    have fin := (fink hN i k HI.out (by omega) hN4 hK hF2 hB _ rfl).after hKK hFF
    rw [hP.zero (k + 1) (by omega)] at fin
    have hl4 := hN4.rw'.row k (by omega)
    have hf4 := hN4.rw'.rowF k (by omega)
    rw [hN.is k (by omega), hP.zero (k + 1) (by omega)] at hl4
    clear hN4 hN hB hs hK hF2 hb hP HG h hcl hKK hFF hr2 hwh hK2 hG hl3 hm3 hh3
    go_wp2_with fail
    go_region
    go_end0
    exact fin

set_option maxHeartbeats 2000000 in
theorem add_made_some (ih : AddAt n) (h : Leaf w F b o f) (i k : Nat) (hi : i / 64 = k + 1) (hk2 : k ≤ 100000) (hk3 : ((k : Int) + 1) < 64 ^ (n + 1)) (hz : f 0 ≠ 0) :
    Calls Ybad.prog 4 #[.pointer (some ⟨b, o, none⟩), .int .i64 i] w (Added (n + 1) w F b o f i) := by
  have lb : b < w.heap.size := h.toBase.lt b (by simp)
  have hP0 := h.made (n := n)
  have hb := bits_one h.zero hz
  obtain ⟨x, hx⟩ : ∃ x, x = f 0 := ⟨_, rfl⟩
  have hl := h.toBase.low
  rw [← hx] at hl hz
  have hx0 : ((x : Int) == 0) = false := by simp; omega
  have hm := h.more
  have hmf := h.toBase.moreF
  have e1 : (i : Int) / 64 = (k : Int) + 1 := by omega
  have HI : Hid (i / 64 = k + 1) := hi
  have HK : Hid (((k : Int) + 1) < 64 ^ (n + 1)) := hk3
  have HC := ih (madeWorld w b o) [] w.heap.size 1 (fun _ => 0) 0 hP0.up (by omega) (Int.pow_pos (by omega))
  unfold madeWorld at HC
  clear hi hk3 hz hx
  go_enter Ybad.func4, Ybad.ntmps4
  go_wp2_with fail
  refine HC.mono ?_
  rintro e w2 ⟨rfl, F2, hs, hK, hF2⟩
  have hP := hP0.above hs hK hF2
  clear hP0 hs hK hF2 HC hl hm hmf
  have hm := hP.more
  have hh := hP.high
  go_wp2_with fail
  clear hm hh
  have hm := hP.more
  have hh := hP.high
  have HW : Hid (IntKind.i64.wrap ((k : Int) + 1) = (k : Int) + 1) := by
    show _ = _
    rw [IntKind.wrap_i64]; omega
  have HG := hP.grow k hk2
  have g0 : (0 : Int) ≤ (k : Int) + 1 := by omega
  go_region_with (first | (go_at_call 7; rw [HW.out]; refine (HG _ ((Kept.refl _ _).drew)).mono ?_; rintro e w1 ⟨bh2, c2, cs2, rfl, g1, g2, g3, g0, g4, g5, hG⟩))
  all_goals
    obtain ⟨hr2, hwh, hK2⟩ := hG.out
    obtain ⟨hN, hKK, hFF, hne⟩ := hP.regrown hr2 hwh hK2 (k := k) (by omega)
    have hcl := clear_run w1 _ bh2 0 k c2 cs2 hr2 hne (by omega) (Nat.zero_le _)
    simp only [Nat.sub_zero] at hcl
    go_wp2_with (simp only [hcl])
    have hm3 := hN.more
    have hh3 := hN.high
    refine (at_pos b o _ bh2 (k + 1) c2 _ _ hm3 hh3 (by omega) (by omega) (by omega)).mono ?_
    rintro e w' ⟨rfl, rfl⟩
    have hl3 := hN.rw'.row k (by omega)
    rw [hN.is k (by omega), hP.zero (k + 1) (by omega)] at hl3
    go_wp2_with fail
    refine (ih _ _ _ 1 _ ((k : Int) + 1) hN.up (by omega) HK.out).mono ?_
    rintro e w4 ⟨rfl, F4, hs, hK, hF2⟩
    have hN4 := hN.above hs hK hF2
    have hB := bits_put (i := i) hb
    rw [show i / 64 = ((k : Int) + 1).toNat by have := HI.out; omega] at hB
    have fin := (fink hN i k HI.out (by omega) hN4 hK hF2 hB _ rfl).after hKK hFF
    rw [hP.zero (k + 1) (by omega)] at fin
    have hl4 := hN4.rw'.row k (by omega)
    have hf4 := hN4.rw'.rowF k (by omega)
    rw [hN.is k (by omega), hP.zero (k + 1) (by omega)] at hl4
    clear hN4 hN hB hs hK hF2 hb hP HG h hcl hKK hFF hr2 hwh hK2 hG hl3 hm3 hh3
    go_wp2_with fail
    go_region
    go_end0
    exact fin
end Go.Proofs.YbulkaqnyDoor

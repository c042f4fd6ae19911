/-
  (*indexSet).add where the row of words must grow.
-/
import Derived.Test.YbulkaqnyDoorAdd2
import Derived.Test.YbulkaqnyDoorHeap2
namespace Go.Proofs.YbulkaqnyDoor
open Go.RowKit Go.Lib
variable {n : Nat} {w : World} {F : List Nat} {b o : Nat} {f : Nat → Nat} {bm bh len cap : Nat} {cs F' : List Nat} {g : Nat → Nat}

theorem zero30 (w : World) : (zeroValue 30).run Ybad.prog w = .ok (.int .u64 0) w := by kernel_rfl

theorem Added.after {w w3 : World} {F F3 : List Nat} {b o i : Nat} {f : Nat → Nat} {e : Ending} {w' : World} (hK : Kept (Foot b o F) w w3) (hF : ∀ x ∈ F3, x ∈ F ∨ w.heap.size ≤ x) (h : Added n w3 F3 b o f i e w') : Added n w F b o f i e w' := by
  obtain ⟨he, F', hs, hK', hF'⟩ := h
  refine ⟨he, F', hs, ?_, ?_⟩
  · have hsz := hK.size
    refine ⟨hK'.os.trans hK.os, hK'.tape.trans hK.tape, hK'.output.trans hK.output, Nat.le_trans hK.size hK'.size, fun k hk ht => ?_, fun k j hk ht => ?_, fun k j hk => (hK'.frozen k j (by omega)).trans (hK.frozen k j hk)⟩
    · refine (hK'.block k (by omega) (fun j => ?_)).trans (hK.block k hk ht)
      rintro (x | x)
      · exact ht j (.inl x)
      · rcases hF k x with y | y
        · exact ht j (.inr y)
        · omega
    · refine (hK'.cell k j (by omega) ?_).trans (hK.cell k j hk ht)
      rintro (x | x)
      · exact ht (.inl x)
      · rcases hF k x with y | y
        · exact ht (.inr y)
        · omega
  · intro x hx
    have hsz := hK.size
    rcases hF' x hx with y | y
    · exact hF x y
    · exact .inr (by omega)

/-- The row that the words lie in now, old or new, is none of the set's other blocks. -/
theorem Node.fresh (h : Node (IsSet n w) w F b o f bm bh len cap cs F' g) {bh2 : Nat} (hw : bh2 = bh ∨ w.heap.size ≤ bh2) : bh2 ∉ b :: bm :: F' ∧ (b :: bm :: F').Nodup := by
  have hn := h.toBase.nodup
  have hl := h.toBase.lt
  rw [h.foot] at hn hl
  simp only [List.nodup_cons, List.mem_cons, not_or] at hn
  obtain ⟨⟨n1, n2, n3⟩, ⟨n4, n5⟩, n6, n7⟩ := hn
  refine ⟨?_, by simp only [List.nodup_cons, List.mem_cons, not_or]; exact ⟨⟨n1, n3⟩, n5, n7⟩⟩
  rcases hw with rfl | hw
  · simp only [List.mem_cons, not_or]
    exact ⟨fun e => n2 e.symm, fun e => n4 e.symm, n6⟩
  · intro hm
    have : bh2 ∈ b :: bm :: bh :: F' := by
      simp only [List.mem_cons] at hm ⊢
      rcases hm with x | x | x
      · exact .inl x
      · exact .inr (.inl x)
      · exact .inr (.inr (.inr x))
    have := hl _ this
    omega

/-- The run of 'clear(s.more.high[len:])'. -/
theorem clear_run (w1 : World) (bm bh len k c : Nat) (cs : List Nat) (hr : Row w1 bh c cs) (hne : bm ≠ bh) (hc : k + 1 ≤ c) (hl : len ≤ k) :
    ∀ ty, (Builtin.clear_ #[38] ty #[.slice (some ⟨bh, len, none⟩) (k + 1 - len) (c - len)]).run Ybad.prog (w1.setCell ⟨bm, 0, none⟩ (.slice (some ⟨bh, 0, none⟩) (k + 1) c)) = .ok (.tuple #[]) (regrownWorld w1 bm bh len k c) := fun ty =>
  Lib.run_clear_slice _ 38 30 ty (.int .u64 0) Ybad.underlying38 zero30 rfl rfl bh len (k + 1 - len) (c - len) (by omega)
    (fun j hj => by rw [World.cell?_setCell_other w1 _ _ _ (addr_ne (by rintro ⟨h, _⟩; exact hne h.symm)), hr.row _ (by omega)]; rfl)
    (fun j hj => by rw [World.frozen?_setCell]; exact hr.rowF _ (by omega))

set_option maxHeartbeats 2000000 in
theorem add_nodek_grow (ih : AddAt n) (h : Node (IsSet n w) w F b o f bm bh len cap cs F' g) (hb : Bits g f) (i k : Nat) (hi : i / 64 = k + 1) (hk : len ≤ k) (hk2 : k ≤ 100000) (hk3 : ((k : Int) + 1) < 64 ^ (n + 1)) :
    Calls Ybad.prog 4 #[.pointer (some ⟨b, o, none⟩), .int .i64 i] w (Added (n + 1) w F b o f i) := by
  have lb : b < w.heap.size := h.toBase.lt b (by simp)
  have lm : bm < w.heap.size := h.toBase.lt bm (by simp [h.foot])
  have hlc := h.lenc
  have hm := h.more
  have hh := h.high
  have hhf := h.highF
  have hcb := h.rw'.capb
  have e1 : (i : Int) / 64 = (k : Int) + 1 := by omega
  have HI : Hid (i / 64 = k + 1) := hi
  have HK : Hid (((k : Int) + 1) < 64 ^ (n + 1)) := hk3
  have hlt : ¬ ((k : Int) + 1 ≤ len) := by omega
  clear hi hk3
  have hgr : ∀ W, Kept (fun _ _ => False) w W → Calls Ybad.prog 7 #[.slice (some ⟨bh, 0, none⟩) len cap, .int .i64 ((k : Int) + 1 - (len : Int))] W fun e w1 => ∃ bh2 c2 cs2, e = .returned (.slice (some ⟨bh2, 0, none⟩) len c2) ∧
      w1.cell? ⟨b, o + 1, none⟩ = some (.pointer (some ⟨bm, 0, none⟩)) ∧ w1.cell? ⟨bm, 0, none⟩ = some (.slice (some ⟨bh, 0, none⟩) len cap) ∧ w1.frozen? ⟨bm, 0, none⟩ = false ∧
      (0 : Int) ≤ (k : Int) + 1 ∧ (k : Int) + 1 ≤ (c2 : Int) ∧ c2 ≤ 9223372036854775807 ∧ Hid (Row w1 bh2 c2 cs2 ∧ (∀ j, j < len → cs2.getD j 0 = cs.getD j 0) ∧ (bh2 = bh ∨ w.heap.size ≤ bh2) ∧ Kept (fun _ _ => False) w w1) := by
    intro W hW
    have hgr := grow_row bh len cap (k + 1 - len) cs W (h.rw'.move hW (fun _ h => h)) hlc (by omega)
    rw [show ((k + 1 - len : Nat) : Int) = (k : Int) + 1 - (len : Int) by omega] at hgr
    refine hgr.mono ?_
    rintro e w1 ⟨bh2, c2, cs2, rfl, hr2, hc2, hsame, hwh, hK⟩
    have hK2 := hW.trans hK
    refine ⟨bh2, c2, cs2, rfl, (hK2.cell _ _ lb (fun h => h)).trans hm, (hK2.cell _ _ lm (fun h => h)).trans hh, (hK2.frozen _ _ lm).trans hhf, by omega, by omega, hr2.capb, hr2, hsame, ?_, hK2⟩
    rcases hwh with e | e
    · exact .inl e
    · exact .inr (by have := hW.size; omega)
  have HW : Hid (IntKind.i64.wrap ((k : Int) + 1 - (len : Int)) = (k : Int) + 1 - (len : Int)) := by
    show _ = _
    rw [IntKind.wrap_i64]; omega
  have HG := hgr
  clear hgr
  go_enter Ybad.func4, Ybad.ntmps4
  go_wp2_with fail
  go_region_with (first | (go_at_call 7; rw [HW.out]; refine (HG _ ((Kept.refl _ _).drew)).mono ?_; rintro e w1 ⟨bh2, c2, cs2, rfl, g1, g2, g3, g0, g4, g5, hG⟩))
  all_goals
    obtain ⟨hr2, hsame, hwh, hK2⟩ := hG.out
    obtain ⟨hbh, hnd⟩ := h.fresh hwh
    have hne : bm ≠ bh2 := fun e => hbh (by simp [e])
    have hN := regrown_node h.toBase.low h.toBase.lowF h.toBase.moreF h.toBase.small h.more h.highF h.high h.up hnd lb hK2 hr2 hbh (k := k) (len := len) (by omega) hk (fun j hj => (hsame j hj).trans (h.is j hj)) h.zero
    have hcl := clear_run w1 bm bh2 len k c2 cs2 hr2 hne (by omega) hk
    have hKK : Kept (Foot b o F) w (regrownWorld w1 bm bh2 len k c2) := by
      refine Kept.setCells (fun j => ?_) _ _ ((hK2.mono (fun _ _ _ h => h.elim)).setCell (.inl (.inr (by simp [h.foot]))) _)
      rcases hwh with e | e
      · exact .inl (.inr (by simp [h.foot, e]))
      · exact .inr e
    have hFF : ∀ x ∈ bm :: bh2 :: F', x ∈ F ∨ w.heap.size ≤ x := by
      intro x hx
      rw [h.foot]
      simp only [List.mem_cons] at hx
      rcases hx with rfl | rfl | hx
      · simp
      · rcases hwh with e | e
        · simp [e]
        · exact .inr e
      · simp [hx]
    go_wp2_with (simp only [hcl])
    have hm3 := hN.more
    have hh3 := hN.high
    refine (at_pos b o bm bh2 (k + 1) c2 _ _ hm3 hh3 (by omega) (by omega) (by omega)).mono ?_
    rintro e w' ⟨rfl, rfl⟩
    have hl3 := hN.rw'.row k (by omega)
    rw [hN.is k (by omega), h.zero (k + 1) (by omega)] at hl3
    go_wp2_with fail
    refine (ih _ F' bm 1 g ((k : Int) + 1) hN.up (by omega) HK.out).mono ?_
    rintro e w4 ⟨rfl, F2, hs, hK, hF2⟩
    have hN4 := hN.above hs hK hF2
    have hB : Bits (put g (i / 64)) (put f i) := bits_put hb
    rw [show i / 64 = ((k : Int) + 1).toNat by have := HI.out; omega] at hB
    have fin := (fink hN i k HI.out (by omega) hN4 hK hF2 hB _ rfl).after hKK hFF
    rw [h.zero (k + 1) (by omega)] at fin
    have hl4 := hN4.rw'.row k (by omega)
    have hf4 := hN4.rw'.rowF k (by omega)
    rw [hN.is k (by omega), h.zero (k + 1) (by omega)] at hl4
    clear hN4 hN hB hs hK hF2 hb h hcl hKK hFF hr2 hsame hwh hK2 hG hl3 hm3 hh3
    go_wp2_with fail
    go_region
    go_end0
    exact fin
end Go.Proofs.YbulkaqnyDoor

/-
  LawS2105AModel, walked.
-/
import Derived.Test.YbulkaqomA1
namespace Go.Proofs.Ybulkaqom
open Go.RowKit

theorem Kept.aged {b : Nat} {T : Nat → Nat → Prop} {w w' : World} (h : Kept T w w') {hz : Int} {bg : Bool} {s f : Int} (hA : Aged w b hz bg s f) (hT : ∀ o, ¬ T b o) : Aged w' b hz bg s f :=
  ⟨(h.cell b 0 hA.lt (hT 0)).trans hA.ch, (h.cell b 1 hA.lt (hT 1)).trans hA.cb, (h.cell b 2 hA.lt (hT 2)).trans hA.cs, (h.cell b 3 hA.lt (hT 3)).trans hA.cf, (h.frozen b 1 hA.lt).trans hA.z1, (h.frozen b 2 hA.lt).trans hA.z2, (h.frozen b 3 hA.lt).trans hA.z3, Nat.lt_of_lt_of_le hA.lt h.size⟩

theorem Aged.new (w : World) (hz : Int) (bg : Bool) (s f : Int) : Aged (w.alloc (.cells #[.int .i64 hz, .bool bg, .int .i64 s, .int .i64 f] 25)) w.heap.size hz bg s f := by
  refine ⟨?_, ?_, ?_, ?_, ?_, ?_, ?_, by simp⟩ <;> simp [go_sem]

set_option maxHeartbeats 400000 in
theorem a_long (a : Option Addr) (n cap : Nat) (a0 : Int) (a1 : Bool) (a2 : Int) (w : World) (h : 1024 < n) (hn : n ≤ 9223372036854775807) :
    Calls Yba.prog 3 #[.int .i64 a0, .bool a1, .int .i64 a2, .slice a n cap] w fun e w' => e = .returned (.bool true) ∧ Below w.heap.size w w' := by
  go_enter Yba.func3, Yba.ntmps3
  go_wp2_with fail
  go_ret
  exact ⟨rfl, Below.refl _ _⟩

theorem passedF_nonneg (h s now : Int) : 0 ≤ passedF h s now := by
  unfold passedF
  repeat' split
  all_goals omega

set_option maxHeartbeats 1000000 in
theorem a_walk_f (b off n cap : Nat) (Z : Nat → Int) (a0 : Int) (a2 : Int) (w : World) (hb : b < w.heap.size) (hn : n ≤ 1024) (hin : ∀ i, i < n → w.cell? ⟨b, off + i, none⟩ = some (.int .i32 (Z i)) ∧ -2147483648 ≤ Z i ∧ Z i ≤ 2147483647) :
    Calls Yba.prog 3 #[.int .i64 a0, .bool false, .int .i64 a2, .slice (some ⟨b, off, none⟩) n cap] w fun e w' => e = .returned (.bool true) ∧ Below w.heap.size w w' := by
  have HN := newAging_any (wrap64 (a0 * 1000000)) w
  go_enter Yba.func3, Yba.ntmps3
  go_wp2_with fail
  refine HN.mono ?_
  rintro e w1 ⟨rfl, c, hw1⟩
  subst w1
  clear HN
  go_wp2_with fail
  generalize wrap64 (a0 * 1000000) = hz at *
  have hA0 := Aged.new (w.alloc (.cells c 25)) (hz) false 0 (-9223372036854775808)
  have hK0 : Below w.heap.size w ((w.alloc (.cells c 25)).alloc (.cells #[.int .i64 (hz), .bool false, .int .i64 0, .int .i64 (-9223372036854775808)] 25)) := ((Below.refl w.heap.size w).alloc (Nat.le_refl _) _).alloc (by simp) _
  have hsz0 : (w.alloc (.cells c 25)).heap.size = w.heap.size + 1 := by simp
  have hsz1 : ((w.alloc (.cells c 25)).alloc (.cells #[.int .i64 (hz), .bool false, .int .i64 0, .int .i64 (-9223372036854775808)] 25)).heap.size = w.heap.size + 2 := by simp
  rw [hsz0] at hA0
  clear hsz0
  generalize ((w.alloc (.cells c 25)).alloc (.cells #[.int .i64 (hz), .bool false, .int .i64 0, .int .i64 (-9223372036854775808)] 25)) = w2 at *
  generalize hba : w.heap.size + 1 = ba at *
  go_loopw [11, 12, 13, 29] (fun xb xs xf x wr => ∃ i : Nat, i ≤ n ∧ x = .int .i64 i ∧ ∃ (bg : Bool) (s f : Int), xb = .bool bg ∧ xs = .int .i64 s ∧ xf = .int .i64 f ∧ Aged wr ba (hz) bg s f ∧ Kept (InB ba) w2 wr) (fun _ _ _ x _ => n - (intOf x).toNat)
  case atStart => exact ⟨0, Nat.zero_le _, rfl, false, 0, -9223372036854775808, rfl, rfl, rfl, hA0, Kept.refl _ _⟩
  case round =>
    obtain ⟨i, hi, rfl, bg, s, f, rfl, rfl, rfl, hA, hK⟩ := hrel
    by_cases hlt : i < n
    · obtain ⟨hc0, hzl, hzh⟩ := hin i hlt
      have hc : wr.cell? ⟨b, off + i, none⟩ = some (.int .i32 (Z i)) := (hK.cell b (off + i) (by omega) (by intro ht; have : b = ba := ht; omega)).trans ((hK0.cell (p := ⟨b, off + i, none⟩) hb).trans hc0)
      clear hc0
      generalize Z i = z at *
      have hnb : -9223372036854775808 ≤ wrap64 (a2 + z * 1000000) ∧ wrap64 (a2 + z * 1000000) ≤ 9223372036854775807 := by unfold wrap64; omega
      generalize hnow : wrap64 (a2 + z * 1000000) = now at hnb
      obtain ⟨hnl, hnh⟩ := hnb
      cases bg
      · have HA := advance_first ba (hz) s f now wr hA
        go_wp2_with fail
        refine HA.mono ?_
        rintro e w3 ⟨rfl, hA3, hK3⟩
        have hK4 := hK.trans hK3
        clear HA hK hK3 hA hc
        have hA4 := hA3
        obtain ⟨c0, c1, c2, c3, z1, z2, z3, hlt3⟩ := hA3
        go_wp2_with fail
        go_roundw
        case rel => exact ⟨i + 1, by omega, by go_num, true, now, f, rfl, rfl, rfl, hA4, hK4⟩
        case measure => simp [intOf]; omega
      · have HG := gens_any (hz) s now wr
        by_cases hp : passedF (hz) s now = 0
        · have HA := advance_none ba (hz) s f now wr hA hp
          rw [hp] at HG
          clear hp
          go_wp2_with fail
          refine HG.mono ?_
          rintro e w3 ⟨rfl, rfl⟩
          go_wp2_with fail
          refine HA.mono ?_
          rintro e w3 ⟨rfl, hA3, hK3⟩
          have hK4 := hK.trans hK3
          clear HA hK hK3 hA hc HG
          have hA4 := hA3
          obtain ⟨c0, c1, c2, c3, z1, z2, z3, hlt3⟩ := hA3
          go_wp2_with fail
          go_roundw
          case rel => exact ⟨i + 1, by omega, by go_num, true, s, f, rfl, rfl, rfl, hA4, hK4⟩
          case measure => simp [intOf]; omega
        · have hp0 : 0 < passedF (hz) s now := by have := passedF_nonneg (hz) s now; omega
          have HA := advance_some ba (hz) s f now _ wr hA rfl hp0
          have HF := forgot_any now wr hnl hnh
          generalize passedF (hz) s now = p at *
          generalize earlyF now = en at *
          clear hp
          go_wp2_with fail
          refine HG.mono ?_
          rintro e w3 ⟨rfl, rfl⟩
          go_wp2_with fail
          refine HF.mono ?_
          rintro e w3 ⟨rfl, rfl⟩
          go_wp2_with fail
          refine HA.mono ?_
          rintro e w3 ⟨rfl, hA3, hK3⟩
          have hK4 := hK.trans hK3
          clear HA hK hK3 hA hc HG HF
          have hA4 := hA3
          obtain ⟨c0, c1, c2, c3, z1, z2, z3, hlt3⟩ := hA3
          go_wp2_with fail
          go_roundw
          case rel => exact ⟨i + 1, by omega, by go_num, true, now, en, rfl, rfl, rfl, hA4, hK4⟩
          case measure => simp [intOf]; omega
    · obtain rfl : i = n := by omega
      have hbel : Below w.heap.size w wr := hK0.trans (hK.below (fun k o hk ht => by have : k = ba := ht; omega) (by omega))
      clear hK hK0 hA hA0
      go_wp2_with fail
      go_ret
      exact ⟨rfl, hbel⟩

set_option maxHeartbeats 1000000 in
theorem a_walk_t (b off n cap : Nat) (Z : Nat → Int) (a0 : Int) (a2 : Int) (w : World) (hb : b < w.heap.size) (hn : n ≤ 1024) (hin : ∀ i, i < n → w.cell? ⟨b, off + i, none⟩ = some (.int .i32 (Z i)) ∧ -2147483648 ≤ Z i ∧ Z i ≤ 2147483647) :
    Calls Yba.prog 3 #[.int .i64 a0, .bool true, .int .i64 a2, .slice (some ⟨b, off, none⟩) n cap] w fun e w' => e = .returned (.bool true) ∧ Below w.heap.size w w' := by
  have HN := newAging_any (9223372036854775807) w
  go_enter Yba.func3, Yba.ntmps3
  go_wp2_with fail
  refine HN.mono ?_
  rintro e w1 ⟨rfl, c, hw1⟩
  subst w1
  clear HN
  go_wp2_with fail
  have hA0 := Aged.new (w.alloc (.cells c 25)) (9223372036854775807) false 0 (-9223372036854775808)
  have hK0 : Below w.heap.size w ((w.alloc (.cells c 25)).alloc (.cells #[.int .i64 (9223372036854775807), .bool false, .int .i64 0, .int .i64 (-9223372036854775808)] 25)) := ((Below.refl w.heap.size w).alloc (Nat.le_refl _) _).alloc (by simp) _
  have hsz0 : (w.alloc (.cells c 25)).heap.size = w.heap.size + 1 := by simp
  have hsz1 : ((w.alloc (.cells c 25)).alloc (.cells #[.int .i64 (9223372036854775807), .bool false, .int .i64 0, .int .i64 (-9223372036854775808)] 25)).heap.size = w.heap.size + 2 := by simp
  rw [hsz0] at hA0
  clear hsz0
  generalize ((w.alloc (.cells c 25)).alloc (.cells #[.int .i64 (9223372036854775807), .bool false, .int .i64 0, .int .i64 (-9223372036854775808)] 25)) = w2 at *
  generalize hba : w.heap.size + 1 = ba at *
  go_loopw [11, 12, 13, 29] (fun xb xs xf x wr => ∃ i : Nat, i ≤ n ∧ x = .int .i64 i ∧ ∃ (bg : Bool) (s f : Int), xb = .bool bg ∧ xs = .int .i64 s ∧ xf = .int .i64 f ∧ Aged wr ba (9223372036854775807) bg s f ∧ Kept (InB ba) w2 wr) (fun _ _ _ x _ => n - (intOf x).toNat)
  case atStart => exact ⟨0, Nat.zero_le _, rfl, false, 0, -9223372036854775808, rfl, rfl, rfl, hA0, Kept.refl _ _⟩
  case round =>
    obtain ⟨i, hi, rfl, bg, s, f, rfl, rfl, rfl, hA, hK⟩ := hrel
    by_cases hlt : i < n
    · obtain ⟨hc0, hzl, hzh⟩ := hin i hlt
      have hc : wr.cell? ⟨b, off + i, none⟩ = some (.int .i32 (Z i)) := (hK.cell b (off + i) (by omega) (by intro ht; have : b = ba := ht; omega)).trans ((hK0.cell (p := ⟨b, off + i, none⟩) hb).trans hc0)
      clear hc0
      generalize Z i = z at *
      have hnb : -9223372036854775808 ≤ wrap64 (a2 + z * 1000000) ∧ wrap64 (a2 + z * 1000000) ≤ 9223372036854775807 := by unfold wrap64; omega
      generalize hnow : wrap64 (a2 + z * 1000000) = now at hnb
      obtain ⟨hnl, hnh⟩ := hnb
      cases bg
      · have HA := advance_first ba (9223372036854775807) s f now wr hA
        go_wp2_with fail
        refine HA.mono ?_
        rintro e w3 ⟨rfl, hA3, hK3⟩
        have hK4 := hK.trans hK3
        clear HA hK hK3 hA hc
        have hA4 := hA3
        obtain ⟨c0, c1, c2, c3, z1, z2, z3, hlt3⟩ := hA3
        go_wp2_with fail
        go_roundw
        case rel => exact ⟨i + 1, by omega, by go_num, true, now, f, rfl, rfl, rfl, hA4, hK4⟩
        case measure => simp [intOf]; omega
      · have HG := gens_any (9223372036854775807) s now wr
        by_cases hp : passedF (9223372036854775807) s now = 0
        · have HA := advance_none ba (9223372036854775807) s f now wr hA hp
          rw [hp] at HG
          clear hp
          go_wp2_with fail
          refine HG.mono ?_
          rintro e w3 ⟨rfl, rfl⟩
          go_wp2_with fail
          refine HA.mono ?_
          rintro e w3 ⟨rfl, hA3, hK3⟩
          have hK4 := hK.trans hK3
          clear HA hK hK3 hA hc HG
          have hA4 := hA3
          obtain ⟨c0, c1, c2, c3, z1, z2, z3, hlt3⟩ := hA3
          go_wp2_with fail
          go_roundw
          case rel => exact ⟨i + 1, by omega, by go_num, true, s, f, rfl, rfl, rfl, hA4, hK4⟩
          case measure => simp [intOf]; omega
        · have hp0 : 0 < passedF (9223372036854775807) s now := by have := passedF_nonneg (9223372036854775807) s now; omega
          have HA := advance_some ba (9223372036854775807) s f now _ wr hA rfl hp0
          have HF := forgot_any now wr hnl hnh
          generalize passedF (9223372036854775807) s now = p at *
          generalize earlyF now = en at *
          clear hp
          go_wp2_with fail
          refine HG.mono ?_
          rintro e w3 ⟨rfl, rfl⟩
          go_wp2_with fail
          refine HF.mono ?_
          rintro e w3 ⟨rfl, rfl⟩
          go_wp2_with fail
          refine HA.mono ?_
          rintro e w3 ⟨rfl, hA3, hK3⟩
          have hK4 := hK.trans hK3
          clear HA hK hK3 hA hc HG HF
          have hA4 := hA3
          obtain ⟨c0, c1, c2, c3, z1, z2, z3, hlt3⟩ := hA3
          go_wp2_with fail
          go_roundw
          case rel => exact ⟨i + 1, by omega, by go_num, true, now, en, rfl, rfl, rfl, hA4, hK4⟩
          case measure => simp [intOf]; omega
    · obtain rfl : i = n := by omega
      have hbel : Below w.heap.size w wr := hK0.trans (hK.below (fun k o hk ht => by have : k = ba := ht; omega) (by omega))
      clear hK hK0 hA hA0
      go_wp2_with fail
      go_ret
      exact ⟨rfl, hbel⟩

set_option maxHeartbeats 1000000 in
theorem a_walk_f0 (a : Option Addr) (cap : Nat) (a0 : Int) (a2 : Int) (w : World) :
    Calls Yba.prog 3 #[.int .i64 a0, .bool false, .int .i64 a2, .slice a 0 cap] w fun e w' => e = .returned (.bool true) ∧ Below w.heap.size w w' := by
  have HN := newAging_any (wrap64 (a0 * 1000000)) w
  go_enter Yba.func3, Yba.ntmps3
  go_wp2_with fail
  refine HN.mono ?_
  rintro e w1 ⟨rfl, c, hw1⟩
  subst w1
  clear HN
  go_wp2_with fail
  generalize wrap64 (a0 * 1000000) = hz at *
  have hA0 := Aged.new (w.alloc (.cells c 25)) (hz) false 0 (-9223372036854775808)
  have hK0 : Below w.heap.size w ((w.alloc (.cells c 25)).alloc (.cells #[.int .i64 (hz), .bool false, .int .i64 0, .int .i64 (-9223372036854775808)] 25)) := ((Below.refl w.heap.size w).alloc (Nat.le_refl _) _).alloc (by simp) _
  have hsz0 : (w.alloc (.cells c 25)).heap.size = w.heap.size + 1 := by simp
  have hsz1 : ((w.alloc (.cells c 25)).alloc (.cells #[.int .i64 (hz), .bool false, .int .i64 0, .int .i64 (-9223372036854775808)] 25)).heap.size = w.heap.size + 2 := by simp
  rw [hsz0] at hA0
  clear hsz0
  generalize ((w.alloc (.cells c 25)).alloc (.cells #[.int .i64 (hz), .bool false, .int .i64 0, .int .i64 (-9223372036854775808)] 25)) = w2 at *
  generalize hba : w.heap.size + 1 = ba at *
  go_loopw [11, 12, 13, 29] (fun xb xs xf x wr => ∃ i : Nat, i ≤ 0 ∧ x = .int .i64 i ∧ ∃ (bg : Bool) (s f : Int), xb = .bool bg ∧ xs = .int .i64 s ∧ xf = .int .i64 f ∧ Aged wr ba (hz) bg s f ∧ Kept (InB ba) w2 wr) (fun _ _ _ x _ => 0 - (intOf x).toNat)
  case atStart => exact ⟨0, Nat.zero_le _, rfl, false, 0, -9223372036854775808, rfl, rfl, rfl, hA0, Kept.refl _ _⟩
  case round =>
    obtain ⟨i, hi, rfl, bg, s, f, rfl, rfl, rfl, hA, hK⟩ := hrel
    by_cases hlt : i < 0
    · exact absurd hlt (Nat.not_lt_zero _)
    · obtain rfl : i = 0 := by omega
      have hbel : Below w.heap.size w wr := hK0.trans (hK.below (fun k o hk ht => by have : k = ba := ht; omega) (by omega))
      clear hK hK0 hA hA0
      go_wp2_with fail
      go_ret
      exact ⟨rfl, hbel⟩

set_option maxHeartbeats 1000000 in
theorem a_walk_t0 (a : Option Addr) (cap : Nat) (a0 : Int) (a2 : Int) (w : World) :
    Calls Yba.prog 3 #[.int .i64 a0, .bool true, .int .i64 a2, .slice a 0 cap] w fun e w' => e = .returned (.bool true) ∧ Below w.heap.size w w' := by
  have HN := newAging_any (9223372036854775807) w
  go_enter Yba.func3, Yba.ntmps3
  go_wp2_with fail
  refine HN.mono ?_
  rintro e w1 ⟨rfl, c, hw1⟩
  subst w1
  clear HN
  go_wp2_with fail
  have hA0 := Aged.new (w.alloc (.cells c 25)) (9223372036854775807) false 0 (-9223372036854775808)
  have hK0 : Below w.heap.size w ((w.alloc (.cells c 25)).alloc (.cells #[.int .i64 (9223372036854775807), .bool false, .int .i64 0, .int .i64 (-9223372036854775808)] 25)) := ((Below.refl w.heap.size w).alloc (Nat.le_refl _) _).alloc (by simp) _
  have hsz0 : (w.alloc (.cells c 25)).heap.size = w.heap.size + 1 := by simp
  have hsz1 : ((w.alloc (.cells c 25)).alloc (.cells #[.int .i64 (9223372036854775807), .bool false, .int .i64 0, .int .i64 (-9223372036854775808)] 25)).heap.size = w.heap.size + 2 := by simp
  rw [hsz0] at hA0
  clear hsz0
  generalize ((w.alloc (.cells c 25)).alloc (.cells #[.int .i64 (9223372036854775807), .bool false, .int .i64 0, .int .i64 (-9223372036854775808)] 25)) = w2 at *
  generalize hba : w.heap.size + 1 = ba at *
  go_loopw [11, 12, 13, 29] (fun xb xs xf x wr => ∃ i : Nat, i ≤ 0 ∧ x = .int .i64 i ∧ ∃ (bg : Bool) (s f : Int), xb = .bool bg ∧ xs = .int .i64 s ∧ xf = .int .i64 f ∧ Aged wr ba (9223372036854775807) bg s f ∧ Kept (InB ba) w2 wr) (fun _ _ _ x _ => 0 - (intOf x).toNat)
  case atStart => exact ⟨0, Nat.zero_le _, rfl, false, 0, -9223372036854775808, rfl, rfl, rfl, hA0, Kept.refl _ _⟩
  case round =>
    obtain ⟨i, hi, rfl, bg, s, f, rfl, rfl, rfl, hA, hK⟩ := hrel
    by_cases hlt : i < 0
    · exact absurd hlt (Nat.not_lt_zero _)
    · obtain rfl : i = 0 := by omega
      have hbel : Below w.heap.size w wr := hK0.trans (hK.below (fun k o hk ht => by have : k = ba := ht; omega) (by omega))
      clear hK hK0 hA hA0
      go_wp2_with fail
      go_ret
      exact ⟨rfl, hbel⟩
end Go.Proofs.Ybulkaqom

/-
  zzs2105agens, zzs2105aforgot, earliestDecision, newAging, advance.
-/
import Derived.Test.YbulkaqomAging
import Derived.Test.YbulkaqomC3
import Derived.Laws.Externs
import Derived.OpenShut
import Derived.Laws.BitsAllLaws
import Derived.Deep.RegionHeld3
namespace Go.Proofs.Ybulkaqom
open Go.RowKit

theorem add64 (x y c : Int) (hx : 0 ≤ x) (hy : 0 ≤ y) (hc0 : 0 ≤ c) (hc : c ≤ 1) (w : World) : (callFunc 28 #[.int .u64 x, .int .u64 y, .int .u64 c]).run Yba.prog w =
    .ok (.value (.tuple #[.int .u64 ((x + y + c) % 18446744073709551616), .int .u64 ((x + y + c) / 18446744073709551616)])) w := by
  rw [run_callFunc_extern Yba.func28 (by kernel_rfl) (by kernel_rfl) (by kernel_rfl) (e := add64Entry) (by kernel_rfl), run_add64 x y c hx hy hc0 hc]
  rfl
theorem add64_0 (x y : Int) (hx : 0 ≤ x) (hy : 0 ≤ y) (w : World) : (callFunc 28 #[.int .u64 x, .int .u64 y, .int .u64 0]).run Yba.prog w =
    .ok (.value (.tuple #[.int .u64 ((x + y) % 18446744073709551616), .int .u64 ((x + y) / 18446744073709551616)])) w := by
  simpa using add64 x y 0 hx hy (Int.le_refl 0) (by decide) w

/-- What 'earliestDecision' returns. -/
def earlyF (now : Int) : Int := if now < -9223372036852775808 then -9223372036854775808 else wrap64 (now - 2000000)

set_option maxHeartbeats 400000 in
theorem earliest_any (now : Int) (w : World) : Calls Yba.prog 30 #[.int .i64 now] w fun e w' => e = .returned (.int .i64 (earlyF now)) ∧ w' = w := by
  unfold earlyF
  by_cases h : now < -9223372036852775808
  · rw [if_pos h]
    go_enter Yba.func30, Yba.ntmps30
    go_wp2_with fail
    go_ret
    exact ⟨rfl, rfl⟩
  · rw [if_neg h]
    go_enter Yba.func30, Yba.ntmps30
    go_wp2_with fail
    go_ret
    exact ⟨rfl, rfl⟩

set_option maxHeartbeats 400000 in
theorem newAging_any (h : Int) (w : World) : Calls Yba.prog 9 #[.int .i64 h] w fun e w' => e = .returned (.agg #[.int .i64 h, .bool false, .int .i64 0, .int .i64 (-9223372036854775808)]) ∧ ∃ c, w' = w.alloc (.cells c 25) := by
  go_enter Yba.func9, Yba.ntmps9
  go_wp2_with fail
  simp [bodyPost, results, Yba.results9, go_sem]
  exact ⟨_, rfl⟩

set_option maxHeartbeats 400000 in
theorem forgot_lo (now x : Int) (w : World) (hx : bits .xor .u64 (IntKind.u64.wrap now) 9223372036854775808 = x) (hl : x < 2000000) : Calls Yba.prog 11 #[.int .i64 now] w fun e w' => e = .returned (.int .i64 (-9223372036854775808)) ∧ w' = w := by
  go_enter Yba.func11, Yba.ntmps11
  go_wp2_with fail
  go_ret
  exact ⟨rfl, rfl⟩

set_option maxHeartbeats 400000 in
theorem forgot_hi (now x : Int) (w : World) (hx : bits .xor .u64 (IntKind.u64.wrap now) 9223372036854775808 = x) (hl : 2000000 ≤ x) : Calls Yba.prog 11 #[.int .i64 now] w fun e w' => e = .returned (.int .i64 (wrap64 (now - 2000000))) ∧ w' = w := by
  go_enter Yba.func11, Yba.ntmps11
  go_wp2_with fail
  go_ret
  exact ⟨rfl, rfl⟩

theorem xor63 (a : Nat) (h : a < 18446744073709551616) : a ^^^ 9223372036854775808 = if a < 9223372036854775808 then a + 9223372036854775808 else a - 9223372036854775808 := by
  have e1 : (a ^^^ 9223372036854775808) / 2 ^ 63 = a / 2 ^ 63 ^^^ 9223372036854775808 / 2 ^ 63 := Nat.xor_div_two_pow
  have e2 : (a ^^^ 9223372036854775808) % 2 ^ 63 = a % 2 ^ 63 ^^^ 9223372036854775808 % 2 ^ 63 := Nat.xor_mod_two_pow
  simp only [Nat.reducePow, Nat.reduceDiv, Nat.reduceMod, Nat.xor_zero] at e1 e2
  split
  · have : a / 9223372036854775808 = 0 := by omega
    rw [this] at e1
    simp at e1
    omega
  · have : a / 9223372036854775808 = 1 := by omega
    rw [this] at e1
    simp at e1
    omega

theorem forgot_any (now : Int) (w : World) (hlo : -9223372036854775808 ≤ now) (hhi : now ≤ 9223372036854775807) : Calls Yba.prog 11 #[.int .i64 now] w fun e w' => e = .returned (.int .i64 (earlyF now)) ∧ w' = w := by
  have hw : 0 ≤ IntKind.u64.wrap now ∧ IntKind.u64.wrap now < 18446744073709551616 := by rw [IntKind.wrap_u64]; omega
  have hx := u64_xor (IntKind.u64.wrap now) 9223372036854775808 hw.1 hw.2 (by omega) (by omega)
  have e : ((9223372036854775808 : Int)).toNat = 9223372036854775808 := rfl
  rw [e, xor63 _ (by omega)] at hx
  have hk : IntKind.u64.wrap now = now % 18446744073709551616 := IntKind.wrap_u64 _
  unfold earlyF
  split
  · refine forgot_lo now _ w hx ?_
    split <;> omega
  · refine forgot_hi now _ w hx ?_
    split <;> omega

set_option maxHeartbeats 400000 in
theorem gens_early (h s now : Int) (w : World) (h1 : now ≤ s) :
    Calls Yba.prog 10 #[.int .i64 h, .int .i64 s, .int .i64 now] w fun e w' => e = .returned (.int .i64 0) ∧ w' = w := by
  go_enter Yba.func10, Yba.ntmps10
  go_wp2_with fail
  go_ret
  exact ⟨rfl, rfl⟩

set_option maxHeartbeats 400000 in
theorem gens_never (h s now : Int) (w : World) (h1 : s < now) (h2 : (h == 9223372036854775807) = true) :
    Calls Yba.prog 10 #[.int .i64 h, .int .i64 s, .int .i64 now] w fun e w' => e = .returned (.int .i64 0) ∧ w' = w := by
  go_enter Yba.func10, Yba.ntmps10
  go_wp2_with fail
  go_ret
  exact ⟨rfl, rfl⟩

set_option maxHeartbeats 400000 in
theorem gens_none (h s now : Int) (w : World) (h1 : s < now) (h2 : (h == 9223372036854775807) = false)
    (h3 : IntKind.u64.wrap (IntKind.u64.wrap now - IntKind.u64.wrap s) < IntKind.u64.wrap (IntKind.u64.wrap h + 2000000)) :
    Calls Yba.prog 10 #[.int .i64 h, .int .i64 s, .int .i64 now] w fun e w' => e = .returned (.int .i64 0) ∧ w' = w := by
  go_enter Yba.func10, Yba.ntmps10
  go_wp2_with fail
  go_ret
  exact ⟨rfl, rfl⟩

set_option maxHeartbeats 400000 in
theorem gens_carry (h s now : Int) (w : World) (h1 : s < now) (h2 : (h == 9223372036854775807) = false)
    (h3 : IntKind.u64.wrap (IntKind.u64.wrap h + 2000000) ≤ IntKind.u64.wrap (IntKind.u64.wrap now - IntKind.u64.wrap s))
    (h0 : 0 ≤ IntKind.u64.wrap (IntKind.u64.wrap h + 2000000))
    (h4 : (((IntKind.u64.wrap (IntKind.u64.wrap h + 2000000) + IntKind.u64.wrap (IntKind.u64.wrap h + 2000000)) / 18446744073709551616) == 0) = false) :
    Calls Yba.prog 10 #[.int .i64 h, .int .i64 s, .int .i64 now] w fun e w' => e = .returned (.int .i64 1) ∧ w' = w := by
  go_enter Yba.func10, Yba.ntmps10
  go_wp2_with (simp only [add64_0 _ _ h0 h0])
  go_ret
  exact ⟨rfl, rfl⟩

set_option maxHeartbeats 400000 in
theorem gens_two (h s now : Int) (w : World) (h1 : s < now) (h2 : (h == 9223372036854775807) = false)
    (h3 : IntKind.u64.wrap (IntKind.u64.wrap h + 2000000) ≤ IntKind.u64.wrap (IntKind.u64.wrap now - IntKind.u64.wrap s))
    (h0 : 0 ≤ IntKind.u64.wrap (IntKind.u64.wrap h + 2000000))
    (h4 : (((IntKind.u64.wrap (IntKind.u64.wrap h + 2000000) + IntKind.u64.wrap (IntKind.u64.wrap h + 2000000)) / 18446744073709551616) == 0) = true)
    (h5 : (IntKind.u64.wrap (IntKind.u64.wrap h + 2000000) + IntKind.u64.wrap (IntKind.u64.wrap h + 2000000)) % 18446744073709551616 ≤ IntKind.u64.wrap (IntKind.u64.wrap now - IntKind.u64.wrap s)) :
    Calls Yba.prog 10 #[.int .i64 h, .int .i64 s, .int .i64 now] w fun e w' => e = .returned (.int .i64 2) ∧ w' = w := by
  go_enter Yba.func10, Yba.ntmps10
  go_wp2_with (simp only [add64_0 _ _ h0 h0])
  go_ret
  exact ⟨rfl, rfl⟩

set_option maxHeartbeats 400000 in
theorem gens_one (h s now : Int) (w : World) (h1 : s < now) (h2 : (h == 9223372036854775807) = false)
    (h3 : IntKind.u64.wrap (IntKind.u64.wrap h + 2000000) ≤ IntKind.u64.wrap (IntKind.u64.wrap now - IntKind.u64.wrap s))
    (h0 : 0 ≤ IntKind.u64.wrap (IntKind.u64.wrap h + 2000000))
    (h4 : (((IntKind.u64.wrap (IntKind.u64.wrap h + 2000000) + IntKind.u64.wrap (IntKind.u64.wrap h + 2000000)) / 18446744073709551616) == 0) = true)
    (h5 : IntKind.u64.wrap (IntKind.u64.wrap now - IntKind.u64.wrap s) < (IntKind.u64.wrap (IntKind.u64.wrap h + 2000000) + IntKind.u64.wrap (IntKind.u64.wrap h + 2000000)) % 18446744073709551616) :
    Calls Yba.prog 10 #[.int .i64 h, .int .i64 s, .int .i64 now] w fun e w' => e = .returned (.int .i64 1) ∧ w' = w := by
  go_enter Yba.func10, Yba.ntmps10
  go_wp2_with (simp only [add64_0 _ _ h0 h0])
  go_ret
  exact ⟨rfl, rfl⟩

/-- zzs2105agens answers as (*aging).passed. -/
theorem gens_any (h s now : Int) (w : World) : Calls Yba.prog 10 #[.int .i64 h, .int .i64 s, .int .i64 now] w fun e w' => e = .returned (.int .i64 (passedF h s now)) ∧ w' = w := by
  unfold passedF
  by_cases h1 : now ≤ s
  · rw [if_pos (.inl h1)]
    exact gens_early h s now w h1
  · by_cases h2 : h = 9223372036854775807
    · rw [if_pos (.inr h2)]
      exact gens_never h s now w (by omega) (by simpa using h2)
    · rw [if_neg (by rintro (a | a); exact h1 a; exact h2 a)]
      have h2' : (h == 9223372036854775807) = false := by simpa using h2
      have hk0 : 0 ≤ keptF h ∧ keptF h < 18446744073709551616 := by unfold keptF; rw [IntKind.wrap_u64 (IntKind.u64.wrap h + 2000000)]; omega
      have hs0 : 0 ≤ sinceF s now ∧ sinceF s now < 18446744073709551616 := by unfold sinceF; rw [IntKind.wrap_u64 (IntKind.u64.wrap now - IntKind.u64.wrap s)]; omega
      by_cases h3 : sinceF s now < keptF h
      · rw [if_pos h3]
        exact gens_none h s now w (by omega) h2' h3
      · rw [if_neg h3]
        have hd : IntKind.u64.wrap (sinceF s now - keptF h) = sinceF s now - keptF h := by rw [IntKind.wrap_u64]; omega
        rw [hd]
        by_cases h4 : (keptF h + keptF h) / 18446744073709551616 = 0
        · by_cases h5 : (keptF h + keptF h) % 18446744073709551616 ≤ sinceF s now
          · rw [if_pos (by omega)]
            exact gens_two h s now w (by omega) h2' (Int.not_lt.1 h3) hk0.1 (by simpa [keptF] using h4) h5
          · rw [if_neg (by omega)]
            exact gens_one h s now w (by omega) h2' (Int.not_lt.1 h3) hk0.1 (by simpa [keptF] using h4) (Int.not_le.1 h5)
        · rw [if_neg (by omega)]
          exact gens_carry h s now w (by omega) h2' (Int.not_lt.1 h3) hk0.1 (by simpa [keptF] using h4)

/-- The four cells of an aging. -/
structure Aged (w : World) (b : Nat) (h : Int) (bg : Bool) (s f : Int) : Prop where
  ch : w.cell? ⟨b, 0, none⟩ = some (.int .i64 h)
  cb : w.cell? ⟨b, 1, none⟩ = some (.bool bg)
  cs : w.cell? ⟨b, 2, none⟩ = some (.int .i64 s)
  cf : w.cell? ⟨b, 3, none⟩ = some (.int .i64 f)
  z1 : w.frozen? ⟨b, 1, none⟩ = false
  z2 : w.frozen? ⟨b, 2, none⟩ = false
  z3 : w.frozen? ⟨b, 3, none⟩ = false
  lt : b < w.heap.size

def InB (b : Nat) : Nat → Nat → Prop := fun k _ => k = b

set_option maxHeartbeats 400000 in
theorem advance_first (ba : Nat) (h s f now : Int) (w : World) (hA : Aged w ba h false s f) :
    Calls Yba.prog 12 #[.pointer (some ⟨ba, 0, none⟩), .int .i64 now] w fun e w' => e = .returned (.int .i64 0) ∧ Aged w' ba h true now f ∧ Kept (InB ba) w w' := by
  obtain ⟨c0, c1, c2, c3, z1, z2, z3, hlt⟩ := hA
  go_enter Yba.func12, Yba.ntmps12
  go_wp2_with fail
  go_ret
  refine ⟨rfl, ?_, ((Kept.refl (InB ba) w).setCell (.inl rfl) _).setCell (.inl rfl) _⟩
  exact ⟨by simp [cell_set, c0], by simp [cell_set, c1], by simp [cell_set, c2], by simp [cell_set, c3], by simp [World.frozen?_setCell, z1], by simp [World.frozen?_setCell, z2], by simp [World.frozen?_setCell, z3], by simpa [World.setCell] using hlt⟩

set_option maxHeartbeats 400000 in
theorem advance_none (ba : Nat) (h s f now : Int) (w : World) (hA : Aged w ba h true s f) (hp : passedF h s now = 0) :
    Calls Yba.prog 12 #[.pointer (some ⟨ba, 0, none⟩), .int .i64 now] w fun e w' => e = .returned (.int .i64 0) ∧ Aged w' ba h true s f ∧ Kept (InB ba) w w' := by
  have HA := hA
  obtain ⟨c0, c1, c2, c3, z1, z2, z3, hlt⟩ := hA
  have HP := passed_any ba 0 h s now w c0 c2
  rw [hp] at HP
  clear hp
  go_enter Yba.func12, Yba.ntmps12
  go_wp2_with fail
  refine HP.mono ?_
  rintro e w1 ⟨rfl, q, hw1⟩
  subst w1
  go_wp2_with fail
  go_ret
  exact ⟨rfl, ⟨c0, c1, c2, c3, z1, z2, z3, hlt⟩, (Kept.refl (InB ba) w).drewN q⟩

set_option maxHeartbeats 400000 in
theorem advance_some (ba : Nat) (h s f now p : Int) (w : World) (hA : Aged w ba h true s f) (hp : passedF h s now = p) (hp0 : 0 < p) :
    Calls Yba.prog 12 #[.pointer (some ⟨ba, 0, none⟩), .int .i64 now] w fun e w' => e = .returned (.int .i64 p) ∧ Aged w' ba h true now (earlyF now) ∧ Kept (InB ba) w w' := by
  obtain ⟨c0, c1, c2, c3, z1, z2, z3, hlt⟩ := hA
  have HP := passed_any ba 0 h s now w c0 c2
  have HE := earliest_any now
  generalize earlyF now = en at *
  rw [hp] at HP
  clear hp
  go_enter Yba.func12, Yba.ntmps12
  go_wp2_with fail
  refine HP.mono ?_
  rintro e w1 ⟨rfl, q, hw1⟩
  subst w1
  clear HP
  go_wp2_with fail
  refine (HE _).mono ?_
  rintro e w2 ⟨rfl, rfl⟩
  go_wp2_with fail
  go_ret
  refine ⟨rfl, ?_, (((Kept.refl (InB ba) w).drewN q).setCell (.inl rfl) _).setCell (.inl rfl) _⟩
  exact ⟨by simp [cell_set, c0], by simp [cell_set, c1], by simp [cell_set, c2], by simp [cell_set, c3], by simp [World.frozen?_setCell, z1], by simp [World.frozen?_setCell, z2], by simp [World.frozen?_setCell, z3], by simpa [World.setCell] using hlt⟩
end Go.Proofs.Ybulkaqom

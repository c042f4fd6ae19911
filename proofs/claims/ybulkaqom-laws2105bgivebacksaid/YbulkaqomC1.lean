/-
  zzs2105chorizon, zzs2105cmodel.
-/
import Derived.Test.YbulkaqomAging
namespace Go.Proofs.Ybulkaqom
open Go.RowKit

def horF (h : Int) : Int := if h < 0 then -(h + 1) else h

set_option maxHeartbeats 400000 in
theorem horizon_any (h : Int) (w : World) (h0 : -9223372036854775808 ≤ h) (h1 : h ≤ 9223372036854775807) :
    Calls Yba.prog 48 #[.int .i64 h] w fun e w' => e = .returned (.int .i64 (horF h)) ∧ w = w' := by
  by_cases hn : h < 0
  · go_enter Yba.func48, Yba.ntmps48
    go_wp2_with fail
    go_ret
    exact ⟨by simp [horF, hn], rfl⟩
  · go_enter Yba.func48, Yba.ntmps48
    go_wp2_with fail
    go_ret
    exact ⟨by rw [horF, if_neg (by omega)]; rfl, rfl⟩

/-- What the model says of one policy. -/
def modelF (h : Int) (bg : Bool) (s now : Int) : Bool :=
  if bg = false then true else if horF h = 9223372036854775807 then false else if now ≤ s then false else decide (keptF (horF h) ≤ sinceF s now)

theorem model_due (h : Int) (bg : Bool) (s now : Int) : dueF (horF h) bg s now = modelF h bg s now := by
  unfold dueF modelF passedF
  cases bg
  · rfl
  · simp only [Bool.not_true, Bool.false_or, Bool.true_eq_false, if_false]
    by_cases h1 : horF h = 9223372036854775807
    · simp [h1]
    · by_cases h2 : now ≤ s
      · simp [h1, h2]
      · simp only [h1, h2, or_self, if_false]
        by_cases h3 : sinceF s now < keptF (horF h)
        · simp [h3]
        · have h4 : keptF (horF h) ≤ sinceF s now := Int.not_lt.1 h3
          simp only [h3, if_false, h4, decide_true]
          split <;> rfl

set_option maxHeartbeats 800000 in
theorem model_any (h s fg now : Int) (bg : Bool) (w : World) (h0 : -9223372036854775808 ≤ h) (h1 : h ≤ 9223372036854775807) :
    Calls Yba.prog 26 #[.agg #[.int .i64 h, .bool bg, .int .i64 s, .int .i64 fg], .int .i64 now] w fun e w' => e = .returned (.bool (modelF h bg s now)) ∧ Below w.heap.size w w' := by
  have hh := fun W => horizon_any h W h0 h1
  unfold modelF
  cases bg
  · go_enter Yba.func26, Yba.ntmps26
    go_wp2_with fail
    go_ret
    exact ⟨rfl, (Below.refl _ _).alloc (Nat.le_refl _) _⟩
  · simp only [Bool.true_eq_false, if_false]
    generalize horF h = g at *
    by_cases h2 : g = 9223372036854775807
    · rw [if_pos h2]
      have h2' : (g == 9223372036854775807) = true := by simpa using h2
      clear h2
      go_enter Yba.func26, Yba.ntmps26
      go_wp2_with (go_at_call 48; refine (hh _).mono ?_; rintro e w' ⟨rfl, rfl⟩)
      go_ret
      exact ⟨rfl, (Below.refl _ _).alloc (Nat.le_refl _) _⟩
    · rw [if_neg h2]
      have h2' : (g == 9223372036854775807) = false := by simpa using h2
      clear h2
      by_cases h3 : now ≤ s
      · rw [if_pos h3]
        go_enter Yba.func26, Yba.ntmps26
        go_wp2_with (go_at_call 48; refine (hh _).mono ?_; rintro e w' ⟨rfl, rfl⟩)
        go_ret
        exact ⟨rfl, (Below.refl _ _).alloc (Nat.le_refl _) _⟩
      · rw [if_neg h3]
        have h3' : s < now := by omega
        clear h3
        go_enter Yba.func26, Yba.ntmps26
        go_wp2_with (go_at_call 48; refine (hh _).mono ?_; rintro e w' ⟨rfl, rfl⟩)
        go_ret
        exact ⟨rfl, (Below.refl _ _).alloc (Nat.le_refl _) _⟩
end Go.Proofs.Ybulkaqom

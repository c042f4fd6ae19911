/-
  (*aging).passed, due.
-/
import Derived.Test.YbulkaqomRows
import Derived.WalkKit
import Derived.WalkSpells
import Derived.WalkLawsBesides
import Derived.Deep.QuietTactic
import Derived.BigQuiet
namespace Go.Proofs.Ybulkaqom
open Go.RowKit

/-- uint64(now) - uint64(started); uint64(horizon) + wakeSlack. -/
def sinceF (s now : Int) : Int := IntKind.u64.wrap (IntKind.u64.wrap now - IntKind.u64.wrap s)
def keptF (h : Int) : Int := IntKind.u64.wrap (IntKind.u64.wrap h + 2000000)
/-- What 'passed' returns. -/
def passedF (h s now : Int) : Int :=
  if now ≤ s ∨ h = 9223372036854775807 then 0 else if sinceF s now < keptF h then 0 else if keptF h ≤ IntKind.u64.wrap (sinceF s now - keptF h) then 2 else 1

set_option maxHeartbeats 400000 in
theorem passed_early (ba oa : Nat) (s now : Int) (w : World) (h1 : now ≤ s) (c2 : w.cell? ⟨ba, oa + 2, none⟩ = some (.int .i64 s)) :
    Calls Yba.prog 29 #[.pointer (some ⟨ba, oa, none⟩), .int .i64 now] w fun e w' => e = .returned (.int .i64 0) ∧ ∃ q, w' = w.drewN q := by
  go_enter Yba.func29, Yba.ntmps29
  go_wp2_with fail
  go_ret
  exact ⟨rfl, 0, rfl⟩

set_option maxHeartbeats 400000 in
theorem passed_never (ba oa : Nat) (h s now : Int) (w : World) (h1 : s < now) (h2 : (h == 9223372036854775807) = true) (c0 : w.cell? ⟨ba, oa, none⟩ = some (.int .i64 h)) (c2 : w.cell? ⟨ba, oa + 2, none⟩ = some (.int .i64 s)) :
    Calls Yba.prog 29 #[.pointer (some ⟨ba, oa, none⟩), .int .i64 now] w fun e w' => e = .returned (.int .i64 0) ∧ ∃ q, w' = w.drewN q := by
  go_enter Yba.func29, Yba.ntmps29
  go_wp2_with fail
  go_ret
  exact ⟨rfl, 0, rfl⟩

set_option maxHeartbeats 400000 in
theorem passed_none (ba oa : Nat) (h s now : Int) (w : World) (h1 : s < now) (h2 : (h == 9223372036854775807) = false) (c0 : w.cell? ⟨ba, oa, none⟩ = some (.int .i64 h)) (c2 : w.cell? ⟨ba, oa + 2, none⟩ = some (.int .i64 s))
    (h3 : IntKind.u64.wrap (IntKind.u64.wrap now - IntKind.u64.wrap s) < IntKind.u64.wrap (IntKind.u64.wrap h + 2000000)) :
    Calls Yba.prog 29 #[.pointer (some ⟨ba, oa, none⟩), .int .i64 now] w fun e w' => e = .returned (.int .i64 0) ∧ ∃ q, w' = w.drewN q := by
  go_enter Yba.func29, Yba.ntmps29
  go_wp2_with fail
  go_quiet (fail)
  go_wp2_with fail
  go_ret
  exact ⟨rfl, _, rfl⟩

set_option maxHeartbeats 400000 in
theorem passed_two (ba oa : Nat) (h s now : Int) (w : World) (h1 : s < now) (h2 : (h == 9223372036854775807) = false) (c0 : w.cell? ⟨ba, oa, none⟩ = some (.int .i64 h)) (c2 : w.cell? ⟨ba, oa + 2, none⟩ = some (.int .i64 s))
    (h3 : IntKind.u64.wrap (IntKind.u64.wrap h + 2000000) ≤ IntKind.u64.wrap (IntKind.u64.wrap now - IntKind.u64.wrap s))
    (h4 : IntKind.u64.wrap (IntKind.u64.wrap h + 2000000) ≤ IntKind.u64.wrap (IntKind.u64.wrap (IntKind.u64.wrap now - IntKind.u64.wrap s) - IntKind.u64.wrap (IntKind.u64.wrap h + 2000000))) :
    Calls Yba.prog 29 #[.pointer (some ⟨ba, oa, none⟩), .int .i64 now] w fun e w' => e = .returned (.int .i64 2) ∧ ∃ q, w' = w.drewN q := by
  go_enter Yba.func29, Yba.ntmps29
  go_wp2_with fail
  go_quiet (fail)
  go_wp2_with fail
  go_ret
  exact ⟨rfl, _, rfl⟩

set_option maxHeartbeats 400000 in
theorem passed_one (ba oa : Nat) (h s now : Int) (w : World) (h1 : s < now) (h2 : (h == 9223372036854775807) = false) (c0 : w.cell? ⟨ba, oa, none⟩ = some (.int .i64 h)) (c2 : w.cell? ⟨ba, oa + 2, none⟩ = some (.int .i64 s))
    (h3 : IntKind.u64.wrap (IntKind.u64.wrap h + 2000000) ≤ IntKind.u64.wrap (IntKind.u64.wrap now - IntKind.u64.wrap s))
    (h4 : IntKind.u64.wrap (IntKind.u64.wrap (IntKind.u64.wrap now - IntKind.u64.wrap s) - IntKind.u64.wrap (IntKind.u64.wrap h + 2000000)) < IntKind.u64.wrap (IntKind.u64.wrap h + 2000000)) :
    Calls Yba.prog 29 #[.pointer (some ⟨ba, oa, none⟩), .int .i64 now] w fun e w' => e = .returned (.int .i64 1) ∧ ∃ q, w' = w.drewN q := by
  go_enter Yba.func29, Yba.ntmps29
  go_wp2_with fail
  go_quiet (fail)
  go_wp2_with fail
  go_ret
  exact ⟨rfl, _, rfl⟩

/-- (*aging).passed. -/
theorem passed_any (ba oa : Nat) (h s now : Int) (w : World) (c0 : w.cell? ⟨ba, oa, none⟩ = some (.int .i64 h)) (c2 : w.cell? ⟨ba, oa + 2, none⟩ = some (.int .i64 s)) :
    Calls Yba.prog 29 #[.pointer (some ⟨ba, oa, none⟩), .int .i64 now] w fun e w' => e = .returned (.int .i64 (passedF h s now)) ∧ ∃ q, w' = w.drewN q := by
  unfold passedF
  by_cases h1 : now ≤ s
  · rw [if_pos (.inl h1)]
    exact passed_early ba oa s now w h1 c2
  · by_cases h2 : h = 9223372036854775807
    · rw [if_pos (.inr h2)]
      exact passed_never ba oa h s now w (by omega) (by simpa using h2) c0 c2
    · rw [if_neg (by rintro (a | a); exact h1 a; exact h2 a)]
      have h2' : (h == 9223372036854775807) = false := by simpa using h2
      by_cases h3 : sinceF s now < keptF h
      · rw [if_pos h3]
        exact passed_none ba oa h s now w (by omega) h2' c0 c2 h3
      · rw [if_neg h3]
        by_cases h4 : keptF h ≤ IntKind.u64.wrap (sinceF s now - keptF h)
        · rw [if_pos h4]
          exact passed_two ba oa h s now w (by omega) h2' c0 c2 (Int.not_lt.1 h3) h4
        · rw [if_neg h4]
          exact passed_one ba oa h s now w (by omega) h2' c0 c2 (Int.not_lt.1 h3) (Int.not_le.1 h4)

/-- What 'due' returns. -/
def dueF (h : Int) (bg : Bool) (s now : Int) : Bool := !bg || decide (0 < passedF h s now)

set_option maxHeartbeats 400000 in
/-- (*aging).due. -/
theorem due_any (ba oa : Nat) (h s now : Int) (bg : Bool) (w : World) (c0 : w.cell? ⟨ba, oa, none⟩ = some (.int .i64 h)) (c1 : w.cell? ⟨ba, oa + 1, none⟩ = some (.bool bg)) (c2 : w.cell? ⟨ba, oa + 2, none⟩ = some (.int .i64 s)) :
    Calls Yba.prog 13 #[.pointer (some ⟨ba, oa, none⟩), .int .i64 now] w fun e w' => e = .returned (.bool (dueF h bg s now)) ∧ ∃ q, w' = w.drewN q := by
  have hp := passed_any ba oa h s now w c0 c2
  unfold dueF
  generalize passedF h s now = p at *
  cases bg
  · clear hp
    go_enter Yba.func13, Yba.ntmps13
    go_wp2_with fail
    go_ret
    exact ⟨rfl, 0, rfl⟩
  · go_enter Yba.func13, Yba.ntmps13
    go_wp2_with fail
    refine hp.mono ?_
    rintro e w1 ⟨rfl, q, hw1⟩
    subst w1
    go_wp2_with fail
    go_ret
    exact ⟨by simp, q, rfl⟩
end Go.Proofs.Ybulkaqom

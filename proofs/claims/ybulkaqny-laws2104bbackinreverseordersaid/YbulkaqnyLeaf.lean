/-
  (*lock).before, (*lock).ahead, (modeSet).without, (*laneWalk).stop.
-/
import Derived.Test.YbulkaqnyRows
import Derived.Test.YbulkaqnyHeap
import Derived.WalkSpells
import Derived.WalkLawsBesides
import Derived.Deep.QuietTactic
import Derived.BigQuiet
namespace Go.Proofs.Ybulkaqny
open Go.RowKit

/-- (*lock).before, by arrival, two requests that are no conversions: neither goes before the other. -/
theorem before_any (bl br x y : Nat) (w : World) (ho : w.cell? ⟨bl, 61, none⟩ = some (.int .u8 0)) (hx : w.cell? ⟨br, x + 4, none⟩ = some (.bool false)) (hy : w.cell? ⟨br, y + 4, none⟩ = some (.bool false)) :
    Calls Yba.prog 11 #[.pointer (some ⟨bl, 0, none⟩), .pointer (some ⟨br, x, none⟩), .pointer (some ⟨br, y, none⟩)] w fun e w' => e = .returned (.bool false) ∧ ∃ q, w' = w.drewN q := by
  go_enter Yba.func11, Yba.ntmps11
  go_wp2_with fail
  go_quiet (fail)
  go_wp2_with fail
  go_quiet (fail)
  go_wp2_with fail
  go_ret
  exact ⟨rfl, _, World.drewN_drewN _ _ _⟩

/-- (*lock).ahead: the earlier arrival. -/
theorem ahead_any (bl br x y : Nat) (p q : Nat) (w : World) (ho : w.cell? ⟨bl, 61, none⟩ = some (.int .u8 0)) (hx : w.cell? ⟨br, x + 4, none⟩ = some (.bool false)) (hy : w.cell? ⟨br, y + 4, none⟩ = some (.bool false))
    (hp : w.cell? ⟨br, x + 12, none⟩ = some (.int .u64 ((p : Int) + 1))) (hq : w.cell? ⟨br, y + 12, none⟩ = some (.int .u64 ((q : Int) + 1))) :
    Calls Yba.prog 9 #[.pointer (some ⟨bl, 0, none⟩), .pointer (some ⟨br, x, none⟩), .pointer (some ⟨br, y, none⟩)] w fun e w' => e = .returned (.bool (decide ((p : Int) < q))) ∧ ∃ q, w' = w.drewN q := by
  have hq0 : (((q : Int) + 1) == 0) = false := by simp; omega
  go_enter Yba.func9, Yba.ntmps9
  go_wp2_with fail
  refine (before_any bl br y x w ho hy hx).mono ?_
  rintro e w1 ⟨rfl, n1, hw1⟩
  have ho1 : w1.cell? ⟨bl, 61, none⟩ = some (.int .u8 0) := by rw [hw1]; exact ho
  have hx1 : w1.cell? ⟨br, x + 4, none⟩ = some (.bool false) := by rw [hw1]; exact hx
  have hy1 : w1.cell? ⟨br, y + 4, none⟩ = some (.bool false) := by rw [hw1]; exact hy
  have hp1 : w1.cell? ⟨br, x + 12, none⟩ = some (.int .u64 ((p : Int) + 1)) := by rw [hw1]; exact hp
  have hq1 : w1.cell? ⟨br, y + 12, none⟩ = some (.int .u64 ((q : Int) + 1)) := by rw [hw1]; exact hq
  have HW : Hid (w1 = w.drewN n1) := hw1
  clear hw1 ho hx hy hp hq
  go_wp2_with fail
  go_quiet ((go_at_call 11; exact Calls.quiet_of (before_any bl br x y _ ho1 hx1 hy1)))
  go_wp2_with fail
  go_ret
  refine ⟨by simp, n1 + nq, ?_⟩
  rw [HW.out]
  exact World.drewN_drewN _ _ _

theorem without_any (s m : Nat) (w : World) (hm : m < 6) :
    Calls Yba.prog 12 #[.int .u8 s, .int .u8 m] w fun e w' => e = .returned (.int .u8 (bits BinOp.andNot .u8 s (2 ^ m % 256))) ∧ w = w' := by
  go_enter Yba.func12, Yba.ntmps12
  go_wp2_with fail
  go_ret
  exact ⟨rfl, rfl⟩
end Go.Proofs.Ybulkaqny

/-
  uint128.sub, uint128.less, buckets.ticks: the world behind the call written out.
-/
import Derived.Test.YbulkaqomG1
namespace Go.Proofs.Ybulkaqom
open Go.RowKit

set_option maxHeartbeats 400000 in
theorem sub_words_ex (xh xl yh yl : Int) (w : World) (h1 : 0 ≤ xh) (h2 : 0 ≤ xl) (h3 : 0 ≤ yh) (h4 : 0 ≤ yl) (h5 : yh < 18446744073709551616) (h6 : yl < 18446744073709551616) (hb0 : 0 ≤ bor xl yl) (hb1 : bor xl yl ≤ 1) :
    Calls Yba.prog 32 #[.agg #[.int .u64 xh, .int .u64 xl], .agg #[.int .u64 yh, .int .u64 yl]] w fun e w' => e = .returned (.agg #[.int .u64 ((xh - yh - bor xl yl) % 18446744073709551616), .int .u64 ((xl - yl) % 18446744073709551616)]) ∧ ∃ c1 c2 c3 : Array Value, w' = ((w.alloc (.cells c1 46)).alloc (.cells c2 46)).alloc (.cells c3 46) := by
  go_enter Yba.func32, Yba.ntmps32
  go_wp2_with (first | simp only [sub64_0 xl yl h2 h4 h6] | simp only [sub64 xh yh _ h1 h3 h5 hb0 hb1])
  simp [bodyPost, results, Yba.results32, go_sem]
  exact ⟨_, _, _, rfl⟩

theorem sub_ex (x y : Int) (w : World) (hy : 0 ≤ y) (hxy : y ≤ x) (hx : x < 340282366920938463463374607431768211456) :
    Calls Yba.prog 32 #[U x, U y] w fun e w' => e = .returned (U (x - y)) ∧ ∃ c1 c2 c3 : Array Value, w' = ((w.alloc (.cells c1 46)).alloc (.cells c2 46)).alloc (.cells c3 46) := by
  refine (sub_words_ex (hiW x) (loW x) (hiW y) (loW y) w (by unfold hiW; omega) (by unfold loW; omega) (by unfold hiW; omega) (by unfold loW; omega) (by unfold hiW; omega) (by unfold loW; omega) (by unfold bor; split <;> omega) (by unfold bor; split <;> omega)).mono ?_
  rintro e w' ⟨he, hb⟩
  have e1 : (hiW x - hiW y - bor (loW x) (loW y)) % 18446744073709551616 = hiW (x - y) := by unfold hiW loW bor; split <;> omega
  have e2 : (loW x - loW y) % 18446744073709551616 = loW (x - y) := by unfold loW; omega
  rw [e1, e2] at he
  exact ⟨he, hb⟩

set_option maxHeartbeats 400000 in
theorem mul_ex (x y : Nat) (w : World) (hx : x < 18446744073709551616) (hy : y < 18446744073709551616) :
    Calls Yba.prog 49 #[.int .u64 x, .int .u64 y] w fun e w' => e = .returned (U (x * y)) ∧ ∃ c1 : Array Value, w' = w.alloc (.cells c1 46) := by
  have HM := Yba.bits_Mul64 x y hx hy
  have e1 : ((x * y / 18446744073709551616 : Nat) : Int) = hiW (x * y) := by rw [← Int.natCast_mul]; generalize x * y = m; unfold hiW; omega
  have e2 : ((x * y % 18446744073709551616 : Nat) : Int) = loW (x * y) := by rw [← Int.natCast_mul]; generalize x * y = m; unfold loW; omega
  rw [e1, e2] at HM
  clear e1 e2
  unfold U
  generalize hiW (x * y) = h at *
  generalize loW (x * y) = l at *
  go_enter Yba.func49, Yba.ntmps49
  go_wp2_with fail
  refine (HM _).mono ?_
  rintro e w1 ⟨rfl, hw1⟩
  subst w1
  go_wp2_with fail
  simp [bodyPost, results, Yba.results49, go_sem]
  exact ⟨_, rfl⟩

set_option maxHeartbeats 400000 in
theorem ticks_ex (B : Nat) (u pu : Nat) (w : World) (hu : u < 18446744073709551616) (hp : pu < 18446744073709551616) (hc : w.cell? ⟨B, 15, none⟩ = some (.int .u64 pu)) :
    Calls Yba.prog 31 #[.pointer (some ⟨B, 0, none⟩), .int .u64 u] w fun e w' => e = .returned (U (u * pu)) ∧ ∃ c1 c2 : Array Value, w' = (w.alloc (.cells c1 46)).alloc (.cells c2 46) := by
  have HM := mul_ex u pu (w.alloc (.cells #[.int .u64 0, .int .u64 0] 46)) hu hp
  have hlt := lt_of_cell hc
  unfold U at *
  generalize hiW (u * pu) = h at *
  generalize loW (u * pu) = l at *
  go_enter Yba.func31, Yba.ntmps31
  go_wp2_with fail
  refine HM.mono ?_
  rintro e w1 ⟨rfl, c1, hw1⟩
  subst w1
  clear HM
  go_wp2_with fail
  simp [bodyPost, results, Yba.results31, go_sem]
  exact ⟨_, _, rfl⟩

set_option maxHeartbeats 400000 in
theorem less_hi_ex (xh xl yh yl : Int) (w : World) (h : xh < yh) :
    Calls Yba.prog 34 #[.agg #[.int .u64 xh, .int .u64 xl], .agg #[.int .u64 yh, .int .u64 yl]] w fun e w' => e = .returned (.bool true) ∧ ∃ c1 c2 : Array Value, w' = (w.alloc (.cells c1 46)).alloc (.cells c2 46) := by
  go_enter Yba.func34, Yba.ntmps34
  go_wp2_with fail
  go_ret
  exact ⟨rfl, _, _, rfl⟩

set_option maxHeartbeats 400000 in
theorem less_not_ex (xh xl yh yl : Int) (w : World) (h : decide (xh < yh) = false) (h2 : (xh == yh) = false) :
    Calls Yba.prog 34 #[.agg #[.int .u64 xh, .int .u64 xl], .agg #[.int .u64 yh, .int .u64 yl]] w fun e w' => e = .returned (.bool false) ∧ ∃ c1 c2 : Array Value, w' = (w.alloc (.cells c1 46)).alloc (.cells c2 46) := by
  go_enter Yba.func34, Yba.ntmps34
  go_wp2_with fail
  go_ret
  exact ⟨rfl, _, _, rfl⟩

set_option maxHeartbeats 400000 in
theorem less_eq_ex (xh xl yl : Int) (w : World) (l : Bool) (hl : decide (xl < yl) = l) :
    Calls Yba.prog 34 #[.agg #[.int .u64 xh, .int .u64 xl], .agg #[.int .u64 xh, .int .u64 yl]] w fun e w' => e = .returned (.bool l) ∧ ∃ c1 c2 : Array Value, w' = (w.alloc (.cells c1 46)).alloc (.cells c2 46) := by
  go_enter Yba.func34, Yba.ntmps34
  go_wp2_with fail
  go_ret
  exact ⟨rfl, _, _, rfl⟩

theorem less_ex (x y : Int) (w : World) : Calls Yba.prog 34 #[U x, U y] w fun e w' => e = .returned (.bool (decide (x < y))) ∧ ∃ c1 c2 : Array Value, w' = (w.alloc (.cells c1 46)).alloc (.cells c2 46) := by
  rcases Int.lt_trichotomy (hiW x) (hiW y) with h | h | h
  · have e : decide (x < y) = true := by unfold hiW at h; simp; omega
    rw [e]
    exact less_hi_ex _ _ _ _ w h
  · have e : decide (loW x < loW y) = decide (x < y) := by unfold hiW at h; unfold loW; rw [decide_eq_decide]; omega
    unfold U
    rw [h]
    exact less_eq_ex _ _ _ w _ e
  · have e : decide (x < y) = false := by unfold hiW at h; simp; omega
    rw [e]
    exact less_not_ex _ _ _ _ w (by simp; omega) (by simp; omega)
end Go.Proofs.Ybulkaqom

/-
  uint128: mul64, add, sub, less, minus, plus; buckets.tick, buckets.ticks.
-/
import Derived.Test.YbulkaqomShelf
import Derived.Test.YbulkaqomA1
import Derived.Shelf.Spec.BitsCarry
import Derived.Test.YbulkaqomC5
namespace Go.Proofs.Ybulkaqom
open Go.RowKit

/-- The two words of a 128-bit number. -/
def hiW (v : Int) : Int := v / 18446744073709551616
def loW (v : Int) : Int := v % 18446744073709551616
@[reducible] def U (v : Int) : Value := .agg #[.int .u64 (hiW v), .int .u64 (loW v)]
def bor (x y : Int) : Int := if x < y then 1 else 0

theorem sub64 (x y b : Int) (hx : 0 ≤ x) (hy : 0 ≤ y) (hy' : y < 18446744073709551616) (hb0 : 0 ≤ b) (hb : b ≤ 1) (w : World) : (callFunc 50 #[.int .u64 x, .int .u64 y, .int .u64 b]).run Yba.prog w =
    .ok (.value (.tuple #[.int .u64 ((x - y - b) % 18446744073709551616), .int .u64 (bor x (y + b))])) w := by
  obtain ⟨x, rfl⟩ := Int.eq_ofNat_of_zero_le hx
  obtain ⟨y, rfl⟩ := Int.eq_ofNat_of_zero_le hy
  obtain ⟨b, rfl⟩ := Int.eq_ofNat_of_zero_le hb0
  have e1 : (((x + 18446744073709551616 - y - b) % 18446744073709551616 : Nat) : Int) = ((x : Int) - y - b) % 18446744073709551616 := by omega
  have e2 : ((if x < y + b then 1 else 0 : Nat) : Int) = bor (x : Int) ((y : Int) + b) := by unfold bor; split <;> split <;> omega
  rw [← e1, ← e2]
  rw [run_callFunc_extern Yba.func50 (by kernel_rfl) (by kernel_rfl) (by kernel_rfl) (e := sub64Entry) (by kernel_rfl), run_sub64 x y b (by omega)]
  rfl
theorem sub64_0 (x y : Int) (hx : 0 ≤ x) (hy : 0 ≤ y) (hy' : y < 18446744073709551616) (w : World) : (callFunc 50 #[.int .u64 x, .int .u64 y, .int .u64 0]).run Yba.prog w =
    .ok (.value (.tuple #[.int .u64 ((x - y) % 18446744073709551616), .int .u64 (bor x y)])) w := by
  simpa using sub64 x y 0 hx hy hy' (Int.le_refl 0) (by decide) w

theorem below3 (w : World) (a b c : Obj) : Below w.heap.size w (((w.alloc a).alloc b).alloc c) :=
  (((Below.refl w.heap.size w).alloc (Nat.le_refl _) _).alloc (by simp) _).alloc (by simp; omega) _

set_option maxHeartbeats 400000 in
theorem sub_words (xh xl yh yl : Int) (w : World) (h1 : 0 ≤ xh) (h2 : 0 ≤ xl) (h3 : 0 ≤ yh) (h4 : 0 ≤ yl) (h5 : yh < 18446744073709551616) (h6 : yl < 18446744073709551616) (hb0 : 0 ≤ bor xl yl) (hb1 : bor xl yl ≤ 1) :
    Calls Yba.prog 32 #[.agg #[.int .u64 xh, .int .u64 xl], .agg #[.int .u64 yh, .int .u64 yl]] w fun e w' => e = .returned (.agg #[.int .u64 ((xh - yh - bor xl yl) % 18446744073709551616), .int .u64 ((xl - yl) % 18446744073709551616)]) ∧ Below w.heap.size w w' := by
  go_enter Yba.func32, Yba.ntmps32
  go_wp2_with (first | simp only [sub64_0 xl yl h2 h4 h6] | simp only [sub64 xh yh _ h1 h3 h5 hb0 hb1])
  simp [bodyPost, results, Yba.results32, go_sem]
  exact below3 _ _ _ _

theorem sub_any (x y : Int) (w : World) (hy : 0 ≤ y) (hxy : y ≤ x) (hx : x < 340282366920938463463374607431768211456) :
    Calls Yba.prog 32 #[U x, U y] w fun e w' => e = .returned (U (x - y)) ∧ Below w.heap.size w w' := by
  refine (sub_words (hiW x) (loW x) (hiW y) (loW y) w (by unfold hiW; omega) (by unfold loW; omega) (by unfold hiW; omega) (by unfold loW; omega) (by unfold hiW; omega) (by unfold loW; omega) (by unfold bor; split <;> omega) (by unfold bor; split <;> omega)).mono ?_
  rintro e w' ⟨he, hb⟩
  have e1 : (hiW x - hiW y - bor (loW x) (loW y)) % 18446744073709551616 = hiW (x - y) := by unfold hiW loW bor; split <;> omega
  have e2 : (loW x - loW y) % 18446744073709551616 = loW (x - y) := by unfold loW; omega
  rw [e1, e2] at he
  exact ⟨he, hb⟩

set_option maxHeartbeats 400000 in
theorem add_words (xh xl yh yl : Int) (w : World) (h1 : 0 ≤ xh) (h2 : 0 ≤ xl) (h3 : 0 ≤ yh) (h4 : 0 ≤ yl) (hb0 : 0 ≤ (xl + yl) / 18446744073709551616) (hb1 : (xl + yl) / 18446744073709551616 ≤ 1) :
    Calls Yba.prog 44 #[.agg #[.int .u64 xh, .int .u64 xl], .agg #[.int .u64 yh, .int .u64 yl]] w fun e w' => e = .returned (.agg #[.int .u64 ((xh + yh + (xl + yl) / 18446744073709551616) % 18446744073709551616), .int .u64 ((xl + yl) % 18446744073709551616)]) ∧ Below w.heap.size w w' := by
  go_enter Yba.func44, Yba.ntmps44
  go_wp2_with (first | simp only [add64_0 xl yl h2 h4] | simp only [add64 xh yh _ h1 h3 hb0 hb1])
  simp [bodyPost, results, Yba.results44, go_sem]
  exact below3 _ _ _ _

theorem add_any (x y : Int) (w : World) (hx : 0 ≤ x) (hy : 0 ≤ y) (hxy : x + y < 340282366920938463463374607431768211456) :
    Calls Yba.prog 44 #[U x, U y] w fun e w' => e = .returned (U (x + y)) ∧ Below w.heap.size w w' := by
  refine (add_words (hiW x) (loW x) (hiW y) (loW y) w (by unfold hiW; omega) (by unfold loW; omega) (by unfold hiW; omega) (by unfold loW; omega) (by unfold loW; omega) (by unfold loW; omega)).mono ?_
  rintro e w' ⟨he, hb⟩
  have e1 : (hiW x + hiW y + (loW x + loW y) / 18446744073709551616) % 18446744073709551616 = hiW (x + y) := by unfold hiW loW; omega
  have e2 : (loW x + loW y) % 18446744073709551616 = loW (x + y) := by unfold loW; omega
  rw [e1, e2] at he
  exact ⟨he, hb⟩

set_option maxHeartbeats 400000 in
theorem less_hi (xh xl yh yl : Int) (w : World) (h : xh < yh) :
    Calls Yba.prog 34 #[.agg #[.int .u64 xh, .int .u64 xl], .agg #[.int .u64 yh, .int .u64 yl]] w fun e w' => e = .returned (.bool true) ∧ Below w.heap.size w w' := by
  go_enter Yba.func34, Yba.ntmps34
  go_wp2_with fail
  go_ret
  exact ⟨rfl, ((Below.refl w.heap.size w).alloc (Nat.le_refl _) _).alloc (by simp) _⟩

set_option maxHeartbeats 400000 in
theorem less_not (xh xl yh yl : Int) (w : World) (h : decide (xh < yh) = false) (h2 : (xh == yh) = false) :
    Calls Yba.prog 34 #[.agg #[.int .u64 xh, .int .u64 xl], .agg #[.int .u64 yh, .int .u64 yl]] w fun e w' => e = .returned (.bool false) ∧ Below w.heap.size w w' := by
  go_enter Yba.func34, Yba.ntmps34
  go_wp2_with fail
  go_ret
  exact ⟨rfl, ((Below.refl w.heap.size w).alloc (Nat.le_refl _) _).alloc (by simp) _⟩

set_option maxHeartbeats 400000 in
theorem less_eq (xh xl yl : Int) (w : World) (l : Bool) (hl : decide (xl < yl) = l) :
    Calls Yba.prog 34 #[.agg #[.int .u64 xh, .int .u64 xl], .agg #[.int .u64 xh, .int .u64 yl]] w fun e w' => e = .returned (.bool l) ∧ Below w.heap.size w w' := by
  go_enter Yba.func34, Yba.ntmps34
  go_wp2_with fail
  go_ret
  exact ⟨rfl, ((Below.refl w.heap.size w).alloc (Nat.le_refl _) _).alloc (by simp) _⟩

theorem less_any (x y : Int) (w : World) : Calls Yba.prog 34 #[U x, U y] w fun e w' => e = .returned (.bool (decide (x < y))) ∧ Below w.heap.size w w' := by
  rcases Int.lt_trichotomy (hiW x) (hiW y) with h | h | h
  · have e : decide (x < y) = true := by unfold hiW at h; simp; omega
    rw [e]
    exact less_hi _ _ _ _ w h
  · have e : decide (loW x < loW y) = decide (x < y) := by unfold hiW at h; unfold loW; rw [decide_eq_decide]; omega
    unfold U
    rw [h]
    exact less_eq _ _ _ w _ e
  · have e : decide (x < y) = false := by unfold hiW at h; simp; omega
    rw [e]
    exact less_not _ _ _ _ w (by simp; omega) (by simp; omega)

set_option maxHeartbeats 400000 in
theorem mul_any (x y : Nat) (w : World) (hx : x < 18446744073709551616) (hy : y < 18446744073709551616) :
    Calls Yba.prog 49 #[.int .u64 x, .int .u64 y] w fun e w' => e = .returned (U (x * y)) ∧ Below w.heap.size w w' := by
  have HM := Yba.bits_Mul64 x y hx hy
  have e1 : ((x * y / 18446744073709551616 : Nat) : Int) = hiW (x * y) := by rw [← Int.natCast_mul]; generalize x * y = m; unfold hiW; omega
  have e2 : ((x * y % 18446744073709551616 : Nat) : Int) = loW (x * y) := by rw [← Int.natCast_mul]; generalize x * y = m; unfold loW; omega
  rw [e1, e2] at HM
  clear e1 e2
  unfold U
  generalize hiW (x * y) = h at *
  generalize loW (x * y) = l at *
  go_enter Yba.func49, Yba.ntmps49
  go_wp2_with fail
  refine (HM _).mono ?_
  rintro e w1 ⟨rfl, hw1⟩
  subst w1
  go_wp2_with fail
  simp [bodyPost, results, Yba.results49, go_sem]
  exact (Below.refl w.heap.size w).alloc (Nat.le_refl _) _

/-- The two cells of a new block stand behind a call that only makes. -/
theorem fresh2 {w w1 : World} {a b : Value} {t : TypeId} (h : Below (w.alloc (.cells #[a, b] t)).heap.size (w.alloc (.cells #[a, b] t)) w1) :
    w1.cell? ⟨w.heap.size, 0, none⟩ = some a ∧ w1.cell? ⟨w.heap.size, 1, none⟩ = some b ∧ w1.frozen? ⟨w.heap.size, 0, none⟩ = false ∧ w1.frozen? ⟨w.heap.size, 1, none⟩ = false ∧ w.heap.size < w1.heap.size ∧ Below w.heap.size w w1 := by
  have hlt : w.heap.size < (w.alloc (.cells #[a, b] t)).heap.size := by simp
  refine ⟨(h.cell (p := ⟨w.heap.size, 0, none⟩) hlt).trans (by simp [go_sem]), (h.cell (p := ⟨w.heap.size, 1, none⟩) hlt).trans (by simp [go_sem]), (h.frozen (p := ⟨w.heap.size, 0, none⟩) hlt).trans (by simp [go_sem]), (h.frozen (p := ⟨w.heap.size, 1, none⟩) hlt).trans (by simp [go_sem]), Nat.lt_of_lt_of_le hlt h.size, ?_⟩
  exact ((Below.refl w.heap.size w).alloc (Nat.le_refl _) _).trans (h.mono (by simp))

set_option maxHeartbeats 400000 in
theorem ticks_any (B : Nat) (u pu : Nat) (w : World) (hu : u < 18446744073709551616) (hp : pu < 18446744073709551616) (hc : w.cell? ⟨B, 15, none⟩ = some (.int .u64 pu)) :
    Calls Yba.prog 31 #[.pointer (some ⟨B, 0, none⟩), .int .u64 u] w fun e w' => e = .returned (U (u * pu)) ∧ Below w.heap.size w w' := by
  have HM := mul_any u pu (w.alloc (.cells #[.int .u64 0, .int .u64 0] 46)) hu hp
  have hlt := lt_of_cell hc
  unfold U at *
  generalize hiW (u * pu) = h at *
  generalize loW (u * pu) = l at *
  go_enter Yba.func31, Yba.ntmps31
  go_wp2_with fail
  refine HM.mono ?_
  rintro e w1 ⟨rfl, hb⟩
  obtain ⟨c0, c1, z0, z1, hl1, hb1⟩ := fresh2 hb
  clear hb HM
  go_wp2_with fail
  simp [bodyPost, results, Yba.results31, go_sem, cell_set, c0, c1]
  exact (hb1.setCell (Nat.le_refl _) _).setCell (Nat.le_refl _) _

set_option maxHeartbeats 400000 in
theorem tick_words (B : Nat) (now : Int) (x pn : Nat) (w : World) (hx : bits .xor .u64 (IntKind.u64.wrap now) 9223372036854775808 = x) (hu : x < 18446744073709551616) (hp : pn < 18446744073709551616) (hc : w.cell? ⟨B, 14, none⟩ = some (.int .u64 pn)) :
    Calls Yba.prog 33 #[.pointer (some ⟨B, 0, none⟩), .int .i64 now] w fun e w' => e = .returned (U (x * pn)) ∧ Below w.heap.size w w' := by
  have HM := mul_any x pn (w.alloc (.cells #[.int .u64 0, .int .u64 0] 46)) hu hp
  have hlt := lt_of_cell hc
  unfold U at *
  generalize hiW (x * pn) = h at *
  generalize loW (x * pn) = l at *
  go_enter Yba.func33, Yba.ntmps33
  go_wp2_with fail
  refine HM.mono ?_
  rintro e w1 ⟨rfl, hb⟩
  obtain ⟨c0, c1, z0, z1, hl1, hb1⟩ := fresh2 hb
  clear hb HM
  go_wp2_with fail
  simp [bodyPost, results, Yba.results33, go_sem, cell_set, c0, c1]
  exact (hb1.setCell (Nat.le_refl _) _).setCell (Nat.le_refl _) _

/-- buckets.tick: (now + 2^63) * perNs. -/
theorem tick_any (B : Nat) (now : Int) (pn : Nat) (w : World) (hlo : -9223372036854775808 ≤ now) (hhi : now ≤ 9223372036854775807) (hp : pn < 18446744073709551616) (hc : w.cell? ⟨B, 14, none⟩ = some (.int .u64 pn)) :
    Calls Yba.prog 33 #[.pointer (some ⟨B, 0, none⟩), .int .i64 now] w fun e w' => e = .returned (U ((now + 9223372036854775808) * pn)) ∧ Below w.heap.size w w' := by
  have hw : 0 ≤ IntKind.u64.wrap now ∧ IntKind.u64.wrap now < 18446744073709551616 := by rw [IntKind.wrap_u64]; omega
  have hx := u64_xor (IntKind.u64.wrap now) 9223372036854775808 hw.1 hw.2 (by omega) (by omega)
  have e : ((9223372036854775808 : Int)).toNat = 9223372036854775808 := rfl
  rw [e, xor63 _ (by omega)] at hx
  have hk : IntKind.u64.wrap now = now % 18446744073709551616 := IntKind.wrap_u64 _
  obtain ⟨x, hxe⟩ := Int.eq_ofNat_of_zero_le (a := now + 9223372036854775808) (by omega)
  rw [hxe]
  refine tick_words B now x pn w (hx.trans ?_) (by omega) hp hc
  split <;> omega

theorem below_drewN {B : Nat} {a w : World} (h : Below B a w) (q : Nat) : Below B a (w.drewN q) := ⟨h.os, h.tape, h.output, h.size, h.block⟩

theorem two_boxes (w : World) (a b c d : Value) (t t' : TypeId) :
    ((w.alloc (.cells #[a, b] t)).alloc (.cells #[c, d] t')).cell? ⟨w.heap.size, 0, none⟩ = some a ∧ ((w.alloc (.cells #[a, b] t)).alloc (.cells #[c, d] t')).cell? ⟨w.heap.size, 1, none⟩ = some b ∧
    ((w.alloc (.cells #[a, b] t)).alloc (.cells #[c, d] t')).cell? ⟨w.heap.size + 1, 0, none⟩ = some c ∧ ((w.alloc (.cells #[a, b] t)).alloc (.cells #[c, d] t')).cell? ⟨w.heap.size + 1, 1, none⟩ = some d ∧
    ((w.alloc (.cells #[a, b] t)).alloc (.cells #[c, d] t')).heap.size = w.heap.size + 2 ∧ Below w.heap.size w ((w.alloc (.cells #[a, b] t)).alloc (.cells #[c, d] t')) := by
  refine ⟨?_, ?_, ?_, ?_, by simp, ((Below.refl w.heap.size w).alloc (Nat.le_refl _) _).alloc (by simp) _⟩ <;> simp [go_sem]

set_option maxHeartbeats 400000 in
/-- uint128.minus, the first above the second, by less than 2^63. -/
theorem minus_pos (x y : Int) (w : World) (hy : 0 ≤ y) (hxy : y < x) (hx : x < 340282366920938463463374607431768211456) (hd : x - y < 9223372036854775808) :
    Calls Yba.prog 51 #[U x, U y] w fun e w' => e = .returned (.tuple #[.int .i64 (x - y), .bool true]) ∧ Below w.heap.size w w' := by
  have HL := fun w => less_any y x w
  have HS := fun w => sub_any x y w hy (by omega) hx
  have e1 : decide (y < x) = true := by simpa using hxy
  have e2 : hiW (x - y) = 0 := by unfold hiW; omega
  have e3 : loW (x - y) = x - y := by unfold loW; omega
  rw [e1] at HL
  unfold U at *
  rw [e2, e3] at HS
  have hd0 : 0 ≤ x - y := by omega
  clear e1 e2 e3 hxy hx hy
  generalize hiW x = xh at *
  generalize loW x = xl at *
  generalize hiW y = yh at *
  generalize loW y = yl at *
  generalize x - y = d at *
  go_enter Yba.func51, Yba.ntmps51
  go_wp2_with fail
  obtain ⟨a0, a1, b0, b1, hsz, hbw⟩ := two_boxes w (.int .u64 xh) (.int .u64 xl) (.int .u64 yh) (.int .u64 yl) 46 46
  generalize ((w.alloc (.cells #[.int .u64 xh, .int .u64 xl] 46)).alloc (.cells #[.int .u64 yh, .int .u64 yl] 46)) = w2 at *
  refine (HL _).mono ?_
  rintro e w1 ⟨rfl, hb⟩
  replace a0 := (hb.cell (p := ⟨w.heap.size, 0, none⟩) (by show w.heap.size < _; omega)).trans a0
  replace a1 := (hb.cell (p := ⟨w.heap.size, 1, none⟩) (by show w.heap.size < _; omega)).trans a1
  replace b0 := (hb.cell (p := ⟨w.heap.size + 1, 0, none⟩) (by show w.heap.size + 1 < _; omega)).trans b0
  replace b1 := (hb.cell (p := ⟨w.heap.size + 1, 1, none⟩) (by show w.heap.size + 1 < _; omega)).trans b1
  have hb1 := hbw.trans (hb.mono (by omega))
  clear hb hbw
  go_wp2_with fail
  refine (HS _).mono ?_
  rintro e w3 ⟨rfl, hb⟩
  have hb3 := hb1.trans (hb.mono hb1.size)
  have hs3 := hb3.size
  clear hb a0 a1 b0 b1 hb1 HS HL
  go_wp2_with fail
  go_quiet (fail)
  go_wp2_with fail
  go_ret2
  exact ⟨rfl, below_drewN (hb3.alloc hs3 _) nq⟩

set_option maxHeartbeats 400000 in
/-- uint128.minus of itself. -/
theorem minus_same (x : Int) (w : World) (hy : 0 ≤ x) (hx : x < 340282366920938463463374607431768211456) :
    Calls Yba.prog 51 #[U x, U x] w fun e w' => e = .returned (.tuple #[.int .i64 0, .bool true]) ∧ Below w.heap.size w w' := by
  have HL := fun w => less_any x x w
  have HS := fun w => sub_any x x w hy (by omega) hx
  have e1 : decide (x < x) = false := by simp
  have e2 : hiW (x - x) = 0 := by unfold hiW; omega
  have e3 : loW (x - x) = 0 := by unfold loW; omega
  rw [e1] at HL
  unfold U at *
  rw [e2, e3] at HS
  clear e1 e2 e3 hx hy
  generalize hiW x = xh at *
  generalize loW x = xl at *
  go_enter Yba.func51, Yba.ntmps51
  go_wp2_with fail
  obtain ⟨a0, a1, b0, b1, hsz, hbw⟩ := two_boxes w (.int .u64 xh) (.int .u64 xl) (.int .u64 xh) (.int .u64 xl) 46 46
  generalize ((w.alloc (.cells #[.int .u64 xh, .int .u64 xl] 46)).alloc (.cells #[.int .u64 xh, .int .u64 xl] 46)) = w2 at *
  refine (HL _).mono ?_
  rintro e w1 ⟨rfl, hb⟩
  replace a0 := (hb.cell (p := ⟨w.heap.size, 0, none⟩) (by show w.heap.size < _; omega)).trans a0
  replace a1 := (hb.cell (p := ⟨w.heap.size, 1, none⟩) (by show w.heap.size < _; omega)).trans a1
  replace b0 := (hb.cell (p := ⟨w.heap.size + 1, 0, none⟩) (by show w.heap.size + 1 < _; omega)).trans b0
  replace b1 := (hb.cell (p := ⟨w.heap.size + 1, 1, none⟩) (by show w.heap.size + 1 < _; omega)).trans b1
  have hb1 := hbw.trans (hb.mono (by omega))
  clear hb hbw
  go_wp2_with fail
  refine (HS _).mono ?_
  rintro e w3 ⟨rfl, hb⟩
  have hb3 := hb1.trans (hb.mono hb1.size)
  have hs3 := hb3.size
  clear hb a0 a1 b0 b1 hb1 HS HL
  go_wp2_with fail
  go_quiet (fail)
  go_wp2_with fail
  go_ret2
  exact ⟨rfl, below_drewN (hb3.alloc hs3 _) nq⟩

theorem minus_any (x y : Int) (w : World) (hy : 0 ≤ y) (hxy : y ≤ x) (hx : x < 340282366920938463463374607431768211456) (hd : x - y < 9223372036854775808) :
    Calls Yba.prog 51 #[U x, U y] w fun e w' => e = .returned (.tuple #[.int .i64 (x - y), .bool true]) ∧ Below w.heap.size w w' := by
  rcases Int.lt_or_eq_of_le hxy with h | h
  · exact minus_pos x y w hy h hx hd
  · subst h
    rw [Int.sub_self]
    exact minus_same y w hy hx

set_option maxHeartbeats 400000 in
/-- uint128.plus, of what is not below 0. -/
theorem plus_any (x d : Int) (w : World) (hx : 0 ≤ x) (hd : 0 ≤ d) (hd' : d ≤ 9223372036854775807) (hxy : x + d < 340282366920938463463374607431768211456) :
    Calls Yba.prog 39 #[U x, .int .i64 d] w fun e w' => e = .returned (U (x + d)) ∧ Below w.heap.size w w' := by
  have HA := fun w => add_any x d w hx hd hxy
  have e2 : hiW d = 0 := by unfold hiW; omega
  have e3 : loW d = d := by unfold loW; omega
  have hs : d / 9223372036854775808 = 0 := by omega
  unfold U at *
  rw [e2, e3] at HA
  clear e2 e3 hx hxy
  generalize hiW x = xh at *
  generalize loW x = xl at *
  generalize hiW (x + d) = rh at *
  generalize loW (x + d) = rl at *
  go_enter Yba.func39, Yba.ntmps39
  go_wp2_with fail
  refine (HA _).mono ?_
  rintro e w1 ⟨rfl, hb⟩
  have hbw : Below w.heap.size w (w.alloc (.cells #[.int .u64 xh, .int .u64 xl] 46)) := (Below.refl w.heap.size w).alloc (Nat.le_refl _) _
  obtain ⟨c0, c1, z0, z1, hl1, hb1⟩ := fresh2 hb
  have hb2 := hbw.trans (hb1.mono hbw.size)
  have hw1 : (w.alloc (.cells #[.int .u64 xh, .int .u64 xl] 46)).heap.size = w.heap.size + 1 := by simp
  rw [hw1] at c0 c1 z0 z1 hl1
  clear hb HA hb1 hbw hw1
  go_wp2_with fail
  simp [bodyPost, results, Yba.results39, go_sem, cell_set, c0, c1]
  exact (hb2.setCell (by simp) _).setCell (by simp) _

set_option maxHeartbeats 400000 in
theorem base_older (B : Nat) (v : Int) (w : World) (hc0 : w.cell? ⟨B, 12, none⟩ = some (.int .u64 (hiW v))) (hc1 : w.cell? ⟨B, 13, none⟩ = some (.int .u64 (loW v))) :
    Calls Yba.prog 38 #[.pointer (some ⟨B, 5, none⟩), .bool true] w fun e w' => e = .returned (U v) ∧ Below w.heap.size w w' := by
  have hlt := lt_of_cell hc0
  unfold U
  generalize hiW v = xh at *
  generalize loW v = xl at *
  go_enter Yba.func38, Yba.ntmps38
  go_wp2_with fail
  simp [bodyPost, results, Yba.results38, go_sem]
  exact (Below.refl w.heap.size w).alloc (Nat.le_refl _) _

set_option maxHeartbeats 400000 in
theorem base_newer (B : Nat) (v : Int) (w : World) (hc0 : w.cell? ⟨B, 10, none⟩ = some (.int .u64 (hiW v))) (hc1 : w.cell? ⟨B, 11, none⟩ = some (.int .u64 (loW v))) :
    Calls Yba.prog 38 #[.pointer (some ⟨B, 5, none⟩), .bool false] w fun e w' => e = .returned (U v) ∧ Below w.heap.size w w' := by
  have hlt := lt_of_cell hc0
  unfold U
  generalize hiW v = xh at *
  generalize loW v = xl at *
  go_enter Yba.func38, Yba.ntmps38
  go_wp2_with fail
  simp [bodyPost, results, Yba.results38, go_sem]
  exact (Below.refl w.heap.size w).alloc (Nat.le_refl _) _
end Go.Proofs.Ybulkaqom

/-
  (*indexSet).wordNext AT EVERY LEVEL.
-/
import Derived.Test.YbulkaqnyDoorWalkU
namespace Go.Proofs.YbulkaqnyDoor
open Go.RowKit

/-- (*indexUnion).next. -/
theorem unext_any {n : Nat} (hset : SetNext n) {w : World} {bu m : Nat} {P : Nat → Nat × Nat} {ff : Nat → Nat → Nat} (h : IsUnion n w bu m P ff) (hT : TabAt 0 Lib.deBruijn64tab w) (hz : ∀ j v, 4096 ≤ v → ff j v = 0) (i : Int) (back : Bool) (h0 : -1 ≤ i) (h1 : i ≤ 100000) :
    Calls Ybad.prog 10 #[.pointer (some ⟨bu, 0, none⟩), .int .i64 i, .bool back] w fun e w' => ∃ r : Int, e = .returned (.int .i64 r) ∧ IsNext (Bit (fun v => orTo ff v m)) i back r ∧ Below w.heap.size w w' := by
  cases back
  · exact unext_fwd hset h hT hz i ((i + 1).toNat / 64) ((i + 1).toNat % 64) (by omega) (by omega) h1
  · rcases Int.lt_or_le 0 i with c | c
    · exact unext_bwd hset h hT hz i ((i - 1).toNat / 64) ((i - 1).toNat % 64) (by omega) (by omega) h1
    · refine (unext_back_none bu i w c).mono ?_
      rintro e w' ⟨rfl, rfl⟩
      exact ⟨-1, rfl, prev_none c, Below.refl _ _⟩

/-- What a set of one word answers. -/
def leafNext (x : Nat) (k : Int) (back : Bool) : Int := if x ≠ 0 ∧ ((back = true ∧ 0 < k) ∨ (back = false ∧ k < 0)) then 0 else -1

set_option maxHeartbeats 1000000 in
theorem wn_leaf (b o x : Nat) (k : Int) (back : Bool) (w : World) (hl : w.cell? ⟨b, o, none⟩ = some (.int .u64 x)) (hm : w.cell? ⟨b, o + 1, none⟩ = some (.pointer none)) :
    Calls Ybad.prog 9 #[.pointer (some ⟨b, o, none⟩), .int .i64 k, .bool back] w fun e w' => e = .returned (.int .i64 (leafNext x k back)) ∧ w = w' := by
  rcases Nat.eq_zero_or_pos x with rfl | hx
  · have e : leafNext 0 k back = -1 := by simp [leafNext]
    rw [e]
    go_enter Ybad.func9, Ybad.ntmps9
    go_wp2_with fail
    go_ret
    exact ⟨rfl, rfl⟩
  · have hx1 : ((x : Int) == 0) = false := by simp; omega
    have hx2 : ((x : Int) != 0) = true := by simp; omega
    cases back
    · rcases Int.lt_or_le k 0 with c | c
      · have e : leafNext x k false = 0 := by simp [leafNext, c]; omega
        rw [e]
        go_enter Ybad.func9, Ybad.ntmps9
        go_wp2_with fail
        go_ret
        exact ⟨rfl, rfl⟩
      · have e : leafNext x k false = -1 := by simp [leafNext]; omega
        rw [e]
        go_enter Ybad.func9, Ybad.ntmps9
        go_wp2_with fail
        go_ret
        exact ⟨rfl, rfl⟩
    · rcases Int.lt_or_le 0 k with c | c
      · have e : leafNext x k true = 0 := by simp [leafNext, c]; omega
        rw [e]
        go_enter Ybad.func9, Ybad.ntmps9
        go_wp2_with fail
        go_ret
        exact ⟨rfl, rfl⟩
      · have e : leafNext x k true = -1 := by simp [leafNext]; omega
        rw [e]
        go_enter Ybad.func9, Ybad.ntmps9
        go_wp2_with fail
        go_ret
        exact ⟨rfl, rfl⟩

theorem leafNext_is {f : Nat → Nat} (hz : ∀ k, 0 < k → f k = 0) (k : Int) (back : Bool) : IsNext (fun v => f v ≠ 0) k back (leafNext (f 0) k back) := by
  have only : ∀ v, f v ≠ 0 → v = 0 := fun v hv => by
    rcases Nat.eq_zero_or_pos v with h | h
    · exact h
    · exact absurd (hz v h) hv
  unfold leafNext
  split
  · rename_i h
    refine .inr ⟨0, rfl, ?_, h.1, fun u _ hu => ?_⟩
    · rcases h.2 with ⟨rfl, hh⟩ | ⟨rfl, hh⟩
      · exact hh
      · exact hh
    · rw [only u hu]
      cases back <;> exact Nat.le_refl _
  · rename_i h
    refine .inl ⟨rfl, fun v hv hf => h ⟨?_, ?_⟩⟩
    · rw [only v hf] at hf; exact hf
    · rw [only v hf] at hv
      cases back
      · exact .inr ⟨rfl, hv⟩
      · exact .inl ⟨rfl, hv⟩

/-- The world behind 'var up indexUnion; up.add(&s.more.above)'. -/
def upWorld (w : World) (bm : Nat) : World :=
  (((w.alloc (.cells #[.pointer none, .pointer none, .pointer none, .pointer none, .pointer none, .int .i64 0] 28)).setCell ⟨w.heap.size, 0, none⟩ (.pointer (some ⟨bm, 1, none⟩))).setCell ⟨w.heap.size, 5, none⟩ (.int .i64 (((0 : Nat) : Int) + 1))).drew

theorem up_kept (w : World) (bm : Nat) : Kept (fun _ _ => False) w (upWorld w bm) :=
  ((((Kept.refl _ w).alloc _).setCell (.inr (Nat.le_refl _)) _).setCell (.inr (Nat.le_refl _)) _).drew

theorem up_below (w : World) (bm : Nat) : Below w.heap.size w (upWorld w bm) :=
  (((((Below.refl _ w).alloc (Nat.le_refl _) _).setCell (Nat.le_refl _) _).setCell (Nat.le_refl _) _).drew)

theorem up_is {n : Nat} {w : World} {bm : Nat} {F' : List Nat} {g : Nat → Nat} (h : IsSet n w F' bm 1 g) : IsUnion n (upWorld w bm) w.heap.size 1 (fun _ => (bm, 1)) (fun _ => g) := by
  refine ⟨by omega, ?_, fun j hj => ?_, fun _ _ => ⟨F', h.move (up_kept w bm) (fun _ _ _ x => x)⟩, by simp [upWorld, World.setCell]⟩
  · refine cell_set_same (u := .int .i64 0) ((World.cell?_setCell_other _ _ _ _ (addr_ne (by omega))).trans ?_)
    rw [World.cell?_alloc_new]
    rfl
  · obtain rfl : j = 0 := by omega
    refine (World.cell?_setCell_other _ _ _ _ (addr_ne (by omega))).trans ?_
    refine cell_set_same (u := .pointer none) ?_
    rw [World.cell?_alloc_new]
    rfl

set_option maxHeartbeats 1000000 in
theorem wn_node {n : Nat} (hset : SetNext n) {w : World} {F : List Nat} {b o : Nat} {f : Nat → Nat} {bm bh len cap : Nat} {cs F' : List Nat} {g : Nat → Nat} (h : Node (IsSet n w) w F b o f bm bh len cap cs F' g) (hb : Bits g f) (hT : TabAt 0 Lib.deBruijn64tab w) (hpos : 0 < w.heap.size) (hz : ∀ v, 4096 ≤ v → g v = 0) (k : Int) (back : Bool) (h0 : -1 ≤ k) (h1 : k ≤ 100000) :
    Calls Ybad.prog 9 #[.pointer (some ⟨b, o, none⟩), .int .i64 k, .bool back] w fun e w' => ∃ r : Int, e = .returned (.int .i64 r) ∧ IsNext (fun v => f v ≠ 0) k back r ∧ Below w.heap.size w w' := by
  have hm := h.more
  have lb : b < w.heap.size := h.toBase.lt b (by simp)
  have hU := up_is h.up
  have hbw := up_below w bm
  have HN := unext_any hset hU (tab_move hT hbw hpos) (fun _ => hz) k back h0 h1
  have HA := uadd_any w.heap.size 0 bm 1 (.pointer none) (w.alloc (.cells #[.pointer none, .pointer none, .pointer none, .pointer none, .pointer none, .int .i64 0] 28)) (by omega)
    (by rw [World.cell?_alloc_new]; rfl) (by simp) (by rw [World.cell?_alloc_new]; rfl) (by simp)
  have HB : Hid (∀ r, IsNext (Bit (fun v => orTo (fun _ => g) v 1)) k back r → IsNext (fun v => f v ≠ 0) k back r) := fun r hr => hr.congr (fun v => by
    have := hb v
    simp only [Bit, orTo, Nat.zero_or]
    rw [this]
    simp)
  have HW : Hid (upWorld w bm = (((w.alloc (.cells #[.pointer none, .pointer none, .pointer none, .pointer none, .pointer none, .int .i64 0] 28)).setCell ⟨w.heap.size, 0, none⟩ (.pointer (some ⟨bm, 1, none⟩))).setCell ⟨w.heap.size, 5, none⟩ (.int .i64 (((0 : Nat) : Int) + 1))).drew) := rfl
  clear hb hU hT
  go_enter Ybad.func9, Ybad.ntmps9
  go_wp2_with fail
  refine HA.mono ?_
  rintro e w1 ⟨rfl, hw1⟩
  rw [← HW.out] at hw1
  subst w1
  clear HW HA
  generalize upWorld w bm = w1 at *
  go_wp2_with fail
  refine HN.mono ?_
  rintro e w2 ⟨r, rfl, hr, hb2⟩
  have fin := HB.out r hr
  have hb3 := hbw.trans (hb2.mono hbw.size)
  clear hr HN HB
  go_wp2_with fail
  go_ret
  exact ⟨r, rfl, fin, hb3⟩

theorem setNext0 : SetNext 0 := by
  intro w F b o f k back h hT hpos hz h0 h1
  refine (wn_leaf b o (f 0) k back w h.toBase.low h.more).mono ?_
  rintro e w' ⟨rfl, rfl⟩
  exact ⟨_, rfl, leafNext_is h.zero k back, Below.refl _ _⟩

theorem setNext_succ {n : Nat} (ih : SetNext n) : SetNext (n + 1) := by
  intro w F b o f k back h hT hpos hz h0 h1
  rcases h with h | ⟨bm, bh, len, cap, cs, F', g, h, hb⟩
  · refine (wn_leaf b o (f 0) k back w h.toBase.low h.more).mono ?_
    rintro e w' ⟨rfl, rfl⟩
    exact ⟨_, rfl, leafNext_is h.zero k back, Below.refl _ _⟩
  · refine wn_node ih h hb hT hpos (fun v hv => ?_) k back h0 h1
    apply Nat.eq_of_testBit_eq
    intro j
    rw [Nat.zero_testBit]
    rcases Nat.lt_or_ge j 64 with hj | hj
    · have := hb (64 * v + j)
      rw [show (64 * v + j) / 64 = v by omega, show (64 * v + j) % 64 = j by omega] at this
      rw [this, hz _ (by omega)]
      rfl
    · exact Nat.testBit_lt_two_pow (Nat.lt_of_lt_of_le (h.up.base.small v) (Nat.pow_le_pow_right (n := 2) (by omega) hj))

theorem setNext2 : SetNext 2 := setNext_succ (setNext_succ setNext0)
end Go.Proofs.YbulkaqnyDoor

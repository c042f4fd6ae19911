/-
  (*indexUnion).wordNext, (*indexSet).wordNext, (*indexUnion).next.
-/
import Derived.Test.YbulkaqnyDoorWord
import Derived.Test.YbulkaqnyDoorNext
namespace Go.Proofs.YbulkaqnyDoor
open Go.RowKit

/-- The contract of (*indexSet).wordNext at level n. -/
def SetNext (n : Nat) : Prop := ∀ (w : World) (F : List Nat) (b o : Nat) (f : Nat → Nat) (k : Int) (back : Bool), IsSet n w F b o f → TabAt 0 Lib.deBruijn64tab w → 0 < w.heap.size → (∀ v, 4096 ≤ v → f v = 0) → -1 ≤ k → k ≤ 100000 →
  Calls Ybad.prog 9 #[.pointer (some ⟨b, o, none⟩), .int .i64 k, .bool back] w fun e w' => ∃ r : Int, e = .returned (.int .i64 r) ∧ IsNext (fun v => f v ≠ 0) k back r ∧ Below w.heap.size w w'

theorem or_ne (ff : Nat → Nat → Nat) (v : Nat) : ∀ m, orTo ff v m ≠ 0 ↔ ∃ j, j < m ∧ ff j v ≠ 0
  | 0 => by simp [orTo]
  | m + 1 => by
    have ih := or_ne ff v m
    simp only [orTo]
    have h : (orTo ff v m ||| ff m v ≠ 0) ↔ (orTo ff v m ≠ 0 ∨ ff m v ≠ 0) := by
      rw [Ne, Nat.or_eq_zero_iff]
      omega
    rw [h, ih]
    constructor
    · rintro (⟨j, h1, h2⟩ | h)
      · exact ⟨j, by omega, h2⟩
      · exact ⟨m, by omega, h⟩
    · rintro ⟨j, h1, h2⟩
      rcases Nat.lt_or_ge j m with h | h
      · exact .inl ⟨j, h, h2⟩
      · obtain rfl : j = m := by omega
        exact .inr h2

/-- Which of two the nearer one is. -/
def Pick (back : Bool) (r x y : Int) : Prop := match back with | true => (r < x ∧ y = x) ∨ (x ≤ r ∧ y = r) | false => (x < r ∧ y = x) ∨ (r ≤ x ∧ y = r)

/-- One set more. -/
theorem next_more {ff : Nat → Nat → Nat} {j : Nat} {k : Int} {back : Bool} {r x y : Int} (h : IsNext (fun v => orTo ff v j ≠ 0) k back r) (h' : IsNext (fun v => ff j v ≠ 0) k back x)
    (hy : (x < 0 ∧ y = r) ∨ (0 ≤ x ∧ r < 0 ∧ y = x) ∨ (0 ≤ x ∧ 0 ≤ r ∧ Pick back r x y)) :
    IsNext (fun v => orTo ff v (j + 1) ≠ 0) k back y := by
  have e : ∀ v, (orTo ff v j ≠ 0 ∨ ff j v ≠ 0) ↔ orTo ff v (j + 1) ≠ 0 := by
    intro v
    simp only [orTo]
    rw [Ne, Ne, Ne, Nat.or_eq_zero_iff]
    omega
  rcases hy with ⟨a, rfl⟩ | ⟨a, b, rfl⟩ | ⟨a, b, c⟩
  · exact (h.first h' a).congr e
  · exact ((h'.first h b).swap).congr e
  · cases back
    · rcases c with ⟨c, rfl⟩ | ⟨c, rfl⟩
      · exact ((h'.nearer h a b (by simp only; omega)).swap).congr e
      · exact (h.nearer h' b a (by simp only; omega)).congr e
    · rcases c with ⟨c, rfl⟩ | ⟨c, rfl⟩
      · exact ((h'.nearer h a b (by simp only; omega)).swap).congr e
      · exact (h.nearer h' b a (by simp only; omega)).congr e

theorem next_bound {f : Nat → Nat} {k : Int} {back : Bool} {x : Int} (h : IsNext (fun v => f v ≠ 0) k back x) (hz : ∀ v, 4096 ≤ v → f v = 0) : -1 ≤ x ∧ x ≤ 4096 := by
  rcases h.range with rfl | ⟨a, b, _⟩
  · omega
  · refine ⟨by omega, ?_⟩
    rcases Int.lt_or_le 4096 x with c | c
    · exact absurd (hz x.toNat (by omega)) b
    · exact c

theorem tab_move {w w' : World} (h : TabAt 0 Lib.deBruijn64tab w) (hb : Below w.heap.size w w') (h0 : 0 < w.heap.size) : TabAt 0 Lib.deBruijn64tab w' := fun j hj => (hb.cell (p := ⟨0, j, none⟩) h0).trans (h j hj)

theorem below_drewN (w : World) (q : Nat) : Below w.heap.size w (w.drewN q) := ⟨rfl, rfl, rfl, Nat.le_refl _, fun _ _ => rfl⟩

set_option maxHeartbeats 1000000 in
theorem uwordNext_any {n : Nat} (hset : SetNext n) {w : World} {bu m : Nat} {P : Nat → Nat × Nat} {ff : Nat → Nat → Nat} (h : IsUnion n w bu m P ff) (hT : TabAt 0 Lib.deBruijn64tab w) (hz : ∀ j v, 4096 ≤ v → ff j v = 0) (k : Int) (back : Bool) (h0 : -1 ≤ k) (h1 : k ≤ 100000) :
    Calls Ybad.prog 6 #[.pointer (some ⟨bu, 0, none⟩), .int .i64 k, .bool back] w fun e w' => ∃ r : Int, e = .returned (.int .i64 r) ∧ IsNext (fun v => orTo ff v m ≠ 0) k back r ∧ Below w.heap.size w w' := by
  have hle := h.le
  have hc := h.cnt
  have hm1 : (0 : Int) ≤ (m : Int) := by omega
  have hm2 : (m : Int) ≤ 5 := by omega
  have hpos : 0 < w.heap.size := by have := h.lt; omega
  cases back
  all_goals
    go_enter Ybad.func6, Ybad.ntmps6
    go_wp2_with fail
    go_quiet (fail)
    go_wp2_with fail
    clear hc
    go_loopw [7, 20] (fun a i wr => ∃ (j : Nat) (r : Int), j ≤ m ∧ i = .int .i64 j ∧ a = .int .i64 r ∧ -1 ≤ r ∧ r ≤ 4096 ∧ IsNext (fun v => orTo ff v j ≠ 0) k _ r ∧ Below w.heap.size w wr) (fun _ i _ => m - (intOf i).toNat)
    case atStart => exact ⟨0, -1, Nat.zero_le _, rfl, rfl, by omega, by omega, .inl ⟨rfl, fun v _ hv => hv rfl⟩, below_drewN w nq⟩
    case round =>
      obtain ⟨j, r, hj, rfl, rfl, hr1, hr2, hnx, hbel⟩ := hrel
      by_cases hlt : j < m
      · have h2 := h.move (Kept.of_below hbel)
        have hp := h2.ptr j hlt
        obtain ⟨F, hs⟩ := h2.set j hlt
        have hT2 := tab_move hT hbel hpos
        have hsz := hbel.size
        go_wp2_with fail
        refine (hset _ F _ _ (ff j) k _ hs hT2 (by omega) (hz j) h0 h1).mono ?_
        rintro e w1 ⟨x, rfl, hx, hb1⟩
        have hbel1 := hbel.trans (hb1.mono hsz)
        obtain ⟨hx1, hx2⟩ := next_bound hx (hz j)
        have step := fun y hy => next_more (y := y) hnx hx hy
        clear hp hs h2 hT2 hnx hx hbel hb1
        rcases Int.lt_or_le x 0 with c1 | c1
        · go_wp2_with fail
          go_roundw
          case rel => exact ⟨j + 1, r, by omega, by go_num, rfl, hr1, hr2, step r (.inl ⟨c1, rfl⟩), hbel1⟩
          case measure => simp [intOf]; omega
        · rcases Int.lt_or_le r 0 with c2 | c2
          · go_wp2_with fail
            go_roundw
            case rel => exact ⟨j + 1, x, by omega, by go_num, rfl, hx1, hx2, step x (.inr (.inl ⟨c1, c2, rfl⟩)), hbel1⟩
            case measure => simp [intOf]; omega
          · rcases Int.lt_trichotomy x r with c3 | c3 | c3
            · go_wp2_with fail
              go_roundw
              case rel => first | exact ⟨j + 1, x, by omega, by go_num, rfl, hx1, hx2, step x (.inr (.inr ⟨c1, c2, .inl ⟨c3, rfl⟩⟩)), hbel1⟩ | exact ⟨j + 1, r, by omega, by go_num, rfl, hr1, hr2, step r (.inr (.inr ⟨c1, c2, .inr ⟨by omega, rfl⟩⟩)), hbel1⟩
              case measure => simp [intOf]; omega
            · have c4 : r ≤ x := by omega
              have c5 : x ≤ r := by omega
              clear c3
              go_wp2_with fail
              go_roundw
              case rel => exact ⟨j + 1, r, by omega, by go_num, rfl, hr1, hr2, step r (.inr (.inr ⟨c1, c2, .inr ⟨by omega, rfl⟩⟩)), hbel1⟩
              case measure => simp [intOf]; omega
            · go_wp2_with fail
              go_roundw
              case rel => first | exact ⟨j + 1, x, by omega, by go_num, rfl, hx1, hx2, step x (.inr (.inr ⟨c1, c2, .inl ⟨c3, rfl⟩⟩)), hbel1⟩ | exact ⟨j + 1, r, by omega, by go_num, rfl, hr1, hr2, step r (.inr (.inr ⟨c1, c2, .inr ⟨by omega, rfl⟩⟩)), hbel1⟩
              case measure => simp [intOf]; omega
      · obtain rfl : j = m := by omega
        go_wp2_with fail
        go_ret
        exact ⟨r, rfl, hnx, hbel⟩
end Go.Proofs.YbulkaqnyDoor

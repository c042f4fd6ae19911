/-
  THE PLAIN SCAN: what the law's own two loops find.
-/
import Derived.Test.YbulkaqnyDoorNext
namespace Go.Proofs.YbulkaqnyDoor

theorem IsNext.congrSide {p q : Nat → Prop} {k : Int} {back : Bool} {r : Int} (h : IsNext p k back r) (hpq : ∀ v, Side back k v → (p v ↔ q v)) : IsNext q k back r := by
  rcases h with ⟨rfl, h⟩ | ⟨v, rfl, h1, h2, h3⟩
  · exact .inl ⟨rfl, fun v hv hq => h v hv ((hpq v hv).2 hq)⟩
  · exact .inr ⟨v, rfl, h1, (hpq v h1).1 h2, fun u hu hq => h3 u hu ((hpq u hu).2 hq)⟩

/-- The words from v on, v not among them, that the table holds. -/
def Above (pr : Nat → Bool) (v : Int) (u : Nat) : Prop := v < (u : Int) ∧ u < 128 ∧ pr u = true
/-- The words before v that the table holds. -/
def Before (pr : Nat → Bool) (v : Nat) (u : Nat) : Prop := u < v ∧ pr u = true
def Among (pr : Nat → Bool) (u : Nat) : Prop := u < 128 ∧ pr u = true

theorem above_start (pr : Nat → Bool) (q : Int) : IsNext (Above pr 127) q false (-1) := .inl ⟨rfl, fun u _ h => by
  have h1 := h.1
  have h2 := h.2.1
  omega⟩

theorem above_hit {pr : Nat → Bool} {q : Int} {n : Nat} (h1 : q < (n : Int)) (h2 : n < 128) (h3 : pr n = true) : IsNext (Above pr ((n : Int) - 1)) q false n := by
  refine .inr ⟨n, rfl, h1, ⟨by omega, h2, h3⟩, fun u _ hu => ?_⟩
  show n ≤ u
  have := hu.1
  omega

theorem above_miss {pr : Nat → Bool} {q : Int} {n : Nat} {y : Int} (h : IsNext (Above pr n) q false y) (h3 : pr n = false) : IsNext (Above pr ((n : Int) - 1)) q false y := by
  refine h.congr (fun u => ?_)
  unfold Above
  constructor
  · rintro ⟨a, b, c⟩; exact ⟨by omega, b, c⟩
  · rintro ⟨a, b, c⟩
    refine ⟨?_, b, c⟩
    rcases Nat.lt_or_ge n u with e | e
    · omega
    · obtain rfl : u = n := by omega
      rw [h3] at c; cases c

theorem above_end {pr : Nat → Bool} {q v y : Int} (h : IsNext (Above pr v) q false y) (hv : v ≤ q) : IsNext (Among pr) q false y := by
  refine h.congrSide (fun u hu => ?_)
  have hu' : q < (u : Int) := hu
  unfold Above Among
  constructor
  · rintro ⟨a, b, c⟩; exact ⟨b, c⟩
  · rintro ⟨b, c⟩; exact ⟨by omega, b, c⟩

theorem before_start (pr : Nat → Bool) (q : Int) : IsNext (Before pr 0) q true (-1) := .inl ⟨rfl, fun u _ h => by
  have h1 := h.1
  omega⟩

theorem before_hit {pr : Nat → Bool} {q : Int} {n : Nat} (h1 : (n : Int) < q) (h3 : pr n = true) : IsNext (Before pr (n + 1)) q true n := by
  refine .inr ⟨n, rfl, h1, ⟨by omega, h3⟩, fun u _ hu => ?_⟩
  show u ≤ n
  have := hu.1
  omega

theorem before_miss {pr : Nat → Bool} {q : Int} {n : Nat} {y : Int} (h : IsNext (Before pr n) q true y) (h3 : pr n = false) : IsNext (Before pr (n + 1)) q true y := by
  refine h.congr (fun u => ?_)
  unfold Before
  constructor
  · rintro ⟨a, c⟩; exact ⟨by omega, c⟩
  · rintro ⟨a, c⟩
    refine ⟨?_, c⟩
    rcases Nat.lt_or_ge u n with e | e
    · omega
    · obtain rfl : u = n := by omega
      rw [h3] at c; cases c

theorem before_end {pr : Nat → Bool} {q y : Int} {n : Nat} (h : IsNext (Before pr n) q true y) (hn : n ≤ 128) (hv : n = 128 ∨ q ≤ (n : Int)) : IsNext (Among pr) q true y := by
  refine h.congrSide (fun u hu => ?_)
  have hu' : (u : Int) < q := hu
  unfold Before Among
  constructor
  · rintro ⟨a, c⟩; exact ⟨by omega, c⟩
  · rintro ⟨b, c⟩
    refine ⟨?_, c⟩
    rcases hv with e | e
    · omega
    · omega
end Go.Proofs.YbulkaqnyDoor

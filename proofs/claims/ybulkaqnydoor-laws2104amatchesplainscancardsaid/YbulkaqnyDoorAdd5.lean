/-
  (*indexSet).add: THE CONTRACT AT EVERY LEVEL THAT THE LAW COMES TO.
-/
import Derived.Test.YbulkaqnyDoorAdd4
namespace Go.Proofs.YbulkaqnyDoor
open Go.RowKit Go.Lib

theorem addAt_succ {n : Nat} (hn : n ≤ 1) (ih : AddAt n) : AddAt (n + 1) := by
  intro w F b o f i h h0 h1
  obtain ⟨i, rfl⟩ := Int.eq_ofNat_of_zero_le h0
  rw [Int.toNat_natCast]
  have h1' : i < 64 ^ (n + 2) := by
    have : ((i : Nat) : Int) < ((64 ^ (n + 2) : Nat) : Int) := by push_cast; exact h1
    omega
  have hdiv : i / 64 < 64 ^ (n + 1) := by
    rw [Nat.div_lt_iff_lt_mul (by omega)]
    rw [Nat.pow_succ] at h1'
    exact h1'
  have hsmall : 64 ^ (n + 1) ≤ 4096 := by
    have : 64 ^ (n + 1) ≤ 64 ^ 2 := Nat.pow_le_pow_right (by omega) (by omega)
    omega
  rcases Nat.eq_zero_or_pos (i / 64) with hk | hk
  · have hi : i < 64 := by omega
    rcases h with h | ⟨bm, bh, len, cap, cs, F', g, h, hb⟩
    · refine (add_leaf_walk b o i (f 0) hi (h.toBase.small 0) w h.toBase.low h.more h.toBase.lowF).mono ?_
      rintro e w' ⟨rfl, hw⟩
      obtain ⟨a1, a2⟩ := Leaf.added h i hi w' hw
      exact ⟨rfl, F, .inl a1, a2, fun x hx => .inl hx⟩
    · by_cases hz : f 0 = 0
      · exact add_node0_empty ih h hb i hi hz
      · exact add_node0_full h hb i hi hz
  · obtain ⟨k, hk⟩ : ∃ k, i / 64 = k + 1 := ⟨i / 64 - 1, by omega⟩
    have hk3 : ((k : Int) + 1) < 64 ^ (n + 1) := by
      have : ((k + 1 : Nat) : Int) < ((64 ^ (n + 1) : Nat) : Int) := by omega
      push_cast at this
      exact this
    rcases h with h | ⟨bm, bh, len, cap, cs, F', g, h, hb⟩
    · by_cases hz : f 0 = 0
      · exact add_made_zero ih h i k hk (by omega) hk3 hz
      · exact add_made_some ih h i k hk (by omega) hk3 hz
    · rcases Nat.lt_or_ge k len with hl | hl
      · by_cases hz : f (k + 1) = 0
        · exact add_nodek_empty ih h hb i k hk hl (by omega) hk3 hz
        · exact add_nodek_full h hb i k hk hl (by omega) hz
      · exact add_nodek_grow ih h hb i k hk hl (by omega) hk3

theorem addAt2 : AddAt 2 := addAt_succ (by omega) (addAt_succ (by omega) addAt0)
end Go.Proofs.YbulkaqnyDoor

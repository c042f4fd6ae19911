/-
  (*indexSet).add, WALKED BY ITS CASES, the set above by the contract of the level beneath ('AddAt n').
-/
import Derived.Test.YbulkaqnyDoorGrow
import Derived.Laws.Bits64b
import Derived.Deep.RegionHeld3
namespace Go.Proofs.YbulkaqnyDoor
open Go.RowKit Go.Lib

theorem or_bit (x i : Nat) (hx : x < 18446744073709551616) : bits BinOp.or .u64 (x : Int) (IntKind.u64.wrap (2 ^ (i % 64))) = ((x ||| 2 ^ (i % 64) : Nat) : Int) := by
  have hp : 2 ^ (i % 64) < 18446744073709551616 := Nat.pow_lt_pow_right (a := 2) (n := 64) (by omega) (Nat.mod_lt _ (by omega))
  have e : IntKind.u64.wrap (2 ^ (i % 64)) = ((2 ^ (i % 64) : Nat) : Int) := by
    rw [IntKind.wrap_u64]
    push_cast
    have : ((2 ^ (i % 64) : Nat) : Int) < 18446744073709551616 := by omega
    push_cast at this
    have h0 : (0 : Int) ≤ 2 ^ (i % 64) := by
      have : (0 : Int) ≤ ((2 ^ (i % 64) : Nat) : Int) := Int.natCast_nonneg _
      push_cast at this
      exact this
    exact Int.emod_eq_of_lt h0 this
  rw [e, bits_or_u64_nat x _ hx hp]

def AddAt (n : Nat) : Prop := ∀ (w : World) (F : List Nat) (b o : Nat) (f : Nat → Nat) (i : Int), IsSet n w F b o f → 0 ≤ i → i < 64 ^ (n + 1) →
  Calls Ybad.prog 4 #[.pointer (some ⟨b, o, none⟩), .int .i64 i] w fun e w' => e = .returned (.tuple #[]) ∧ ∃ F', IsSet n w' F' b o (put f i.toNat) ∧ Kept (Foot b o F) w w' ∧ ∀ x ∈ F', x ∈ F ∨ w.heap.size ≤ x

set_option maxHeartbeats 400000 in
theorem at_zero (b o : Nat) (w : World) :
    Calls Ybad.prog 8 #[.pointer (some ⟨b, o, none⟩), .int .i64 0] w fun e w' => e = .returned (.pointer (some ⟨b, o, none⟩)) ∧ w = w' := by
  go_enter Ybad.func8, Ybad.ntmps8
  go_wp2
  go_ret
  exact ⟨rfl, rfl⟩

set_option maxHeartbeats 400000 in
theorem at_pos (b o bm bh len cap : Nat) (k : Int) (w : World) (hm : w.cell? ⟨b, o + 1, none⟩ = some (.pointer (some ⟨bm, 0, none⟩)))
    (hh : w.cell? ⟨bm, 0, none⟩ = some (.slice (some ⟨bh, 0, none⟩) len cap)) (h1 : 1 ≤ k) (h2 : k ≤ len) (h3 : k ≤ 1000000) :
    Calls Ybad.prog 8 #[.pointer (some ⟨b, o, none⟩), .int .i64 k] w fun e w' => e = .returned (.pointer (some ⟨bh, k.toNat - 1, none⟩)) ∧ w = w' := by
  go_enter Ybad.func8, Ybad.ntmps8
  go_wp2
  go_ret
  exact ⟨rfl, rfl⟩

set_option maxHeartbeats 400000 in
theorem add_leaf_walk (b o : Nat) (i : Nat) (x : Nat) (hi : i < 64) (hx : x < 18446744073709551616) (w : World) (hl : w.cell? ⟨b, o, none⟩ = some (.int .u64 x)) (hm : w.cell? ⟨b, o + 1, none⟩ = some (.pointer none)) (hf : w.frozen? ⟨b, o, none⟩ = false) :
    Calls Ybad.prog 4 #[.pointer (some ⟨b, o, none⟩), .int .i64 i] w fun e w' => e = .returned (.tuple #[]) ∧ w' = (w.setCell ⟨b, o, none⟩ (.int .u64 (bits BinOp.or .u64 (x : Int) (IntKind.u64.wrap (2 ^ (i % 64)))))).drew := by
  have e1 : (i : Int) / 64 = 0 := by omega
  go_enter Ybad.func4, Ybad.ntmps4
  go_wp2_with (go_at_call 8; refine (at_zero _ _ _).mono ?_; rintro e w' ⟨rfl, rfl⟩)
  all_goals go_region
  all_goals go_end0
  · have h0 : x = 0 := by assumption
    subst h0
    exact ⟨rfl, rfl⟩
  · exact ⟨rfl, rfl⟩

theorem Leaf.added {w : World} {F : List Nat} {b o : Nat} {f : Nat → Nat} (h : Leaf w F b o f) (i : Nat) (hi : i < 64) (w' : World) (hw : w' = (w.setCell ⟨b, o, none⟩ (.int .u64 (bits BinOp.or .u64 (f 0 : Int) (IntKind.u64.wrap (2 ^ (i % 64)))))).drew) :
    Leaf w' F b o (put f i) ∧ Kept (Foot b o F) w w' := by
  have hk : Kept (fun x y => x = b ∧ y = o) w w' := hw ▸ ((Kept.refl _ w).setCell (.inl ⟨rfl, rfl⟩) _).drew
  have lb : b < w.heap.size := h.toBase.lt b (by simp)
  refine ⟨⟨⟨?_, (hk.frozen b o lb).trans h.toBase.lowF, (hk.frozen b (o + 1) lb).trans h.toBase.moreF, put_small f i h.toBase.small, h.toBase.nodup, fun x hx => Nat.lt_of_lt_of_le (h.toBase.lt x hx) hk.size⟩,
    (hk.cell b (o + 1) lb (by simp)).trans h.more, fun k hk => ?_, h.none'⟩, hk.mono ?_⟩
  · rw [hw, or_bit _ _ (h.toBase.small 0)]
    have e : put f i 0 = f 0 ||| 2 ^ (i % 64) := by unfold put; rw [if_pos (by omega)]
    rw [e]
    exact cell_set_same h.toBase.low
  · unfold put
    rw [if_neg (by omega)]
    exact h.zero k hk
  · rintro k j _ ⟨rfl, rfl⟩
    exact .inl ⟨rfl, .inl rfl⟩

theorem addAt0 : AddAt 0 := by
  intro w F b o f i h h0 h1
  obtain ⟨i, rfl⟩ := Int.eq_ofNat_of_zero_le h0
  have hi : i < 64 := by simp at h1; omega
  refine (add_leaf_walk b o i (f 0) hi (h.toBase.small 0) w h.toBase.low h.more h.toBase.lowF).mono ?_
  rintro e w' ⟨rfl, hw⟩
  obtain ⟨a1, a2⟩ := Leaf.added h i hi w' hw
  exact ⟨rfl, F, a1, a2, fun x hx => .inl hx⟩
end Go.Proofs.YbulkaqnyDoor

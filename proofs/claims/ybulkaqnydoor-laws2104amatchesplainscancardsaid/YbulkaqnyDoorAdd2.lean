/-
  (*indexSet).add at a set with a second level, the word there already.
-/
import Derived.Test.YbulkaqnyDoorAdd
namespace Go.Proofs.YbulkaqnyDoor
open Go.RowKit Go.Lib
variable {n : Nat} {w : World} {F : List Nat} {b o : Nat} {f : Nat → Nat} {bm bh len cap : Nat} {cs F' : List Nat} {g : Nat → Nat}

/-- What 'add' owes. -/
def Added (n : Nat) (w : World) (F : List Nat) (b o : Nat) (f : Nat → Nat) (i : Nat) (e : Ending) (w' : World) : Prop :=
  e = .returned (.tuple #[]) ∧ ∃ F', IsSet n w' F' b o (put f i) ∧ Kept (Foot b o F) w w' ∧ ∀ x ∈ F', x ∈ F ∨ w.heap.size ≤ x

theorem foot_above (h : Node (IsSet n w) w F b o f bm bh len cap cs F' g) : ∀ k j, Foot bm 1 F' k j → Foot b o F k j := by
  rintro k j (⟨rfl, _⟩ | hk)
  · exact .inr (by simp [h.foot])
  · exact .inr (by simp [h.foot, hk])

theorem bits_same {i : Nat} (hb : Bits g f) (hne : f (i / 64) ≠ 0) : Bits g (put f i) := by
  intro k
  rw [hb k]
  have := put_ne f i k
  by_cases e : k = i / 64
  · subst e; simp [hne, this]
  · simp [this, e]

theorem bits_put {i : Nat} (hb : Bits g f) : Bits (put g (i / 64)) (put f i) := by
  intro k
  rw [put_bit, hb k]
  have := put_ne f i k
  by_cases e : k = i / 64
  · subst e; simp [this]
  · simp [this, e]

/-- Behind the store: word 0. -/
theorem fin0 {w1 : World} {F2 : List Nat} {g2 : Nat → Nat} (h : Node (IsSet n w) w F b o f bm bh len cap cs F' g) (i : Nat) (hi : i / 64 = 0) (hN : Node (IsSet n w1) w1 (bm :: bh :: F2) b o f bm bh len cap cs F2 g2) (hK : Kept (Foot bm 1 F') w w1)
    (hF2 : ∀ x ∈ F2, x ∈ F' ∨ w.heap.size ≤ x) (hB : Bits g2 (put f i)) (v : Value) (hv : v = .int .u64 (bits BinOp.or .u64 (f 0 : Int) (IntKind.u64.wrap (2 ^ (i % 64))))) :
    Added (n + 1) w F b o f i (.returned (.tuple #[])) (w1.setCell ⟨b, o, none⟩ v).drew := by
  have e : put f i 0 = f 0 ||| 2 ^ (i % 64) := by unfold put; rw [if_pos (by omega)]
  refine ⟨rfl, bm :: bh :: F2, .inr ⟨bm, bh, len, cap, cs, F2, g2, hN.set0 i hi v (by rw [hv, or_bit _ _ (h.toBase.small 0), e]), hB⟩, (((hK.mono (fun k j _ => foot_above h k j)).setCell (.inl (.inl ⟨rfl, .inl rfl⟩)) v).drew), ?_⟩
  intro x hx
  simp only [List.mem_cons] at hx
  rw [h.foot]
  rcases hx with rfl | rfl | hx
  · simp
  · simp
  · rcases hF2 x hx with y | y
    · simp [y]
    · exact .inr y

/-- Behind the store: word k + 1. -/
theorem fink {w1 : World} {F2 : List Nat} {g2 : Nat → Nat} (h : Node (IsSet n w) w F b o f bm bh len cap cs F' g) (i k : Nat) (hi : i / 64 = k + 1) (hl : k < len) (hN : Node (IsSet n w1) w1 (bm :: bh :: F2) b o f bm bh len cap cs F2 g2) (hK : Kept (Foot bm 1 F') w w1)
    (hF2 : ∀ x ∈ F2, x ∈ F' ∨ w.heap.size ≤ x) (hB : Bits g2 (put f i)) (v : Value) (hv : v = .int .u64 (bits BinOp.or .u64 (f (k + 1) : Int) (IntKind.u64.wrap (2 ^ (i % 64))))) :
    Added (n + 1) w F b o f i (.returned (.tuple #[])) (w1.setCell ⟨bh, k, none⟩ v).drew := by
  have e : put f i (k + 1) = f (k + 1) ||| 2 ^ (i % 64) := by unfold put; rw [if_pos (by omega)]
  refine ⟨rfl, bm :: bh :: F2, .inr ⟨bm, bh, len, cap, _, F2, g2, hN.setk i k hi hl v (by rw [hv, or_bit _ _ (h.toBase.small _), e]), hB⟩, (((hK.mono (fun k j _ => foot_above h k j)).setCell (.inl (.inr (by simp [h.foot]))) v).drew), ?_⟩
  intro x hx
  simp only [List.mem_cons] at hx
  rw [h.foot]
  rcases hx with rfl | rfl | hx
  · simp
  · simp
  · rcases hF2 x hx with y | y
    · simp [y]
    · exact .inr y

set_option maxHeartbeats 400000 in
theorem add_node0_full (h : Node (IsSet n w) w F b o f bm bh len cap cs F' g) (hb : Bits g f) (i : Nat) (hi : i < 64) (hne : f 0 ≠ 0) :
    Calls Ybad.prog 4 #[.pointer (some ⟨b, o, none⟩), .int .i64 i] w (Added (n + 1) w F b o f i) := by
  have e1 : (i : Int) / 64 = 0 := by omega
  have hB := bits_same (i := i) hb (by rw [show i / 64 = 0 by omega]; exact hne)
  have fin := fin0 h i (by omega) (h.above h.up (Kept.refl _ _) (fun x hx => .inl hx)) (Kept.refl _ _) (fun x hx => .inl hx) hB _ rfl
  obtain ⟨x, hx⟩ : ∃ x, x = f 0 := ⟨_, rfl⟩
  have hl := h.toBase.low
  have hm := h.more
  have hf := h.toBase.lowF
  rw [← hx] at hl fin hne
  have hx0 : ((x : Int) == 0) = false := by simp; omega
  clear hx hb hB h
  go_enter Ybad.func4, Ybad.ntmps4
  go_wp2_with (go_at_call 8; refine (at_zero _ _ _).mono ?_; rintro e w' ⟨rfl, rfl⟩)
  go_region
  go_end0
  exact fin

set_option maxHeartbeats 400000 in
theorem add_node0_empty (ih : AddAt n) (h : Node (IsSet n w) w F b o f bm bh len cap cs F' g) (hb : Bits g f) (i : Nat) (hi : i < 64) (hne : f 0 = 0) :
    Calls Ybad.prog 4 #[.pointer (some ⟨b, o, none⟩), .int .i64 i] w (Added (n + 1) w F b o f i) := by
  have e1 : (i : Int) / 64 = 0 := by omega
  have hl := h.toBase.low
  have hm := h.more
  have hf := h.toBase.lowF
  rw [hne] at hl
  have H : Hid (f 0 = 0) := hne
  clear hne
  go_enter Ybad.func4, Ybad.ntmps4
  go_wp2_with fail
  refine (at_zero _ _ _).mono ?_
  rintro e w' ⟨rfl, rfl⟩
  go_wp2_with fail
  refine (ih w F' bm 1 g 0 h.up (by omega) (Int.pow_pos (by omega))).mono ?_
  rintro e w1 ⟨rfl, F2, hs, hK, hF2⟩
  have hN := h.above hs hK hF2
  have hB : Bits (put g (i / 64)) (put f i) := bits_put hb
  rw [show i / 64 = 0 by omega] at hB
  have fin := fin0 h i (by omega) hN hK hF2 hB _ rfl
  rw [H.out] at fin
  have hl1 := hN.toBase.low
  have hf1 := hN.toBase.lowF
  rw [H.out] at hl1
  clear hN hB hs hK hF2 hb h
  go_wp2_with fail
  go_region
  go_end0
  exact fin

set_option maxHeartbeats 400000 in
theorem add_nodek_full (h : Node (IsSet n w) w F b o f bm bh len cap cs F' g) (hb : Bits g f) (i k : Nat) (hi : i / 64 = k + 1) (hk : k < len) (hk2 : k ≤ 100000) (hne : f (k + 1) ≠ 0) :
    Calls Ybad.prog 4 #[.pointer (some ⟨b, o, none⟩), .int .i64 i] w (Added (n + 1) w F b o f i) := by
  have hB := bits_same (i := i) hb (by rw [hi]; exact hne)
  have fin := fink h i k hi hk (h.above h.up (Kept.refl _ _) (fun x hx => .inl hx)) (Kept.refl _ _) (fun x hx => .inl hx) hB _ rfl
  obtain ⟨x, hx⟩ : ∃ x, x = f (k + 1) := ⟨_, rfl⟩
  have hlc := h.lenc
  have hl := h.rw'.row k (by omega)
  have hf := h.rw'.rowF k (by omega)
  have hm := h.more
  have hh := h.high
  have hcb := h.rw'.capb
  rw [h.is k hk] at hl
  rw [← hx] at hl fin hne
  have hx0 : ((x : Int) == 0) = false := by simp; omega
  have e1 : (i : Int) / 64 = (k : Int) + 1 := by omega
  clear hx hb hB h hi
  go_enter Ybad.func4, Ybad.ntmps4
  go_wp2_with fail
  refine (at_pos b o bm bh len cap _ _ hm hh (by omega) (by omega) (by omega)).mono ?_
  rintro e w' ⟨rfl, rfl⟩
  go_wp2_with fail
  go_region
  go_end0
  exact fin

set_option maxHeartbeats 400000 in
theorem add_nodek_empty (ih : AddAt n) (h : Node (IsSet n w) w F b o f bm bh len cap cs F' g) (hb : Bits g f) (i k : Nat) (hi : i / 64 = k + 1) (hk : k < len) (hk2 : k ≤ 100000) (hk3 : ((k : Int) + 1) < 64 ^ (n + 1)) (hne : f (k + 1) = 0) :
    Calls Ybad.prog 4 #[.pointer (some ⟨b, o, none⟩), .int .i64 i] w (Added (n + 1) w F b o f i) := by
  have hlc := h.lenc
  have hl := h.rw'.row k (by omega)
  have hf := h.rw'.rowF k (by omega)
  have hm := h.more
  have hh := h.high
  have hcb := h.rw'.capb
  rw [h.is k hk, hne] at hl
  have e1 : (i : Int) / 64 = (k : Int) + 1 := by omega
  have H : Hid (f (k + 1) = 0) := hne
  have HI : Hid (i / 64 = k + 1) := hi
  have HK : Hid (((k : Int) + 1) < 64 ^ (n + 1)) := hk3
  clear hne hi hk3
  go_enter Ybad.func4, Ybad.ntmps4
  go_wp2_with fail
  refine (at_pos b o bm bh len cap _ _ hm hh (by omega) (by omega) (by omega)).mono ?_
  rintro e w' ⟨rfl, rfl⟩
  go_wp2_with fail
  refine (ih w F' bm 1 g ((k : Int) + 1) h.up (by omega) HK.out).mono ?_
  rintro e w1 ⟨rfl, F2, hs, hK, hF2⟩
  have hN := h.above hs hK hF2
  have hB : Bits (put g (i / 64)) (put f i) := bits_put hb
  rw [show i / 64 = ((k : Int) + 1).toNat by have := HI.out; omega] at hB
  have fin := fink h i k HI.out hk hN hK hF2 hB _ rfl
  rw [H.out] at fin
  have hl1 := hN.rw'.row k (by omega)
  have hf1 := hN.rw'.rowF k (by omega)
  rw [h.is k hk, H.out] at hl1
  clear hN hB hs hK hF2 hb h
  go_wp2_with fail
  go_region
  go_end0
  exact fin
end Go.Proofs.YbulkaqnyDoor

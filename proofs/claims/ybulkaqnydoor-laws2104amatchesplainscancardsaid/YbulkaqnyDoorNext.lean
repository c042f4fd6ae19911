/-
  THE PLAIN LAW OF 'the nearest one on either side' (no Go in sight but the library's names for the lowest and the highest bit).
-/
import Derived.Test.YbulkaqnyDoorBits
namespace Go.Proofs.YbulkaqnyDoor

/-- v lies on the side of k that is looked at. -/
def Side (back : Bool) (k : Int) (v : Nat) : Prop := match back with | true => (v : Int) < k | false => k < (v : Int)

/-- r is the nearest index that p holds of, on that side of k; -1 where there is none. -/
def IsNext (p : Nat → Prop) (k : Int) (back : Bool) (r : Int) : Prop :=
  (r = -1 ∧ ∀ v, Side back k v → ¬ p v) ∨ ∃ v : Nat, r = v ∧ Side back k v ∧ p v ∧ ∀ u, Side back k u → p u → match back with | true => u ≤ v | false => v ≤ u

theorem IsNext.unique {p : Nat → Prop} {k : Int} {back : Bool} {r r' : Int} (h : IsNext p k back r) (h' : IsNext p k back r') : r = r' := by
  rcases h with ⟨rfl, h⟩ | ⟨v, rfl, h1, h2, h3⟩ <;> rcases h' with ⟨rfl, h'⟩ | ⟨v', rfl, h1', h2', h3'⟩
  · rfl
  · exact absurd h2' (h v' h1')
  · exact absurd h2 (h' v h1)
  · have a := h3 v' h1' h2'
    have b := h3' v h1 h2
    cases back <;> simp only at a b <;> omega

theorem IsNext.congr {p q : Nat → Prop} {k : Int} {back : Bool} {r : Int} (h : IsNext p k back r) (hpq : ∀ v, p v ↔ q v) : IsNext q k back r := by
  rcases h with ⟨rfl, h⟩ | ⟨v, rfl, h1, h2, h3⟩
  · exact .inl ⟨rfl, fun v hv hq => h v hv ((hpq v).2 hq)⟩
  · exact .inr ⟨v, rfl, h1, (hpq v).1 h2, fun u hu hq => h3 u hu ((hpq u).2 hq)⟩

theorem IsNext.range {p : Nat → Prop} {k : Int} {back : Bool} {r : Int} (h : IsNext p k back r) : r = -1 ∨ (0 ≤ r ∧ p r.toNat ∧ Side back k r.toNat) := by
  rcases h with ⟨rfl, h⟩ | ⟨v, rfl, h1, h2, h3⟩
  · exact .inl rfl
  · exact .inr ⟨by omega, by simpa using h2, by simpa using h1⟩

/-- Of two: the second has none. -/
theorem IsNext.first {p q : Nat → Prop} {k : Int} {back : Bool} {r v : Int} (h : IsNext p k back r) (h' : IsNext q k back v) (hv : v < 0) : IsNext (fun x => p x ∨ q x) k back r := by
  rcases h' with ⟨rfl, h'⟩ | ⟨v', rfl, _⟩
  · rcases h with ⟨rfl, h⟩ | ⟨x, rfl, h1, h2, h3⟩
    · exact .inl ⟨rfl, fun x hx hp => hp.elim (h x hx) (h' x hx)⟩
    · exact .inr ⟨x, rfl, h1, .inl h2, fun u hu hp => h3 u hu (hp.elim id (fun e => absurd e (h' u hu)))⟩
  · omega

theorem IsNext.swap {p q : Nat → Prop} {k : Int} {back : Bool} {r : Int} (h : IsNext (fun x => q x ∨ p x) k back r) : IsNext (fun x => p x ∨ q x) k back r := h.congr (fun _ => Or.comm)

/-- Of two: both have one. -/
theorem IsNext.nearer {p q : Nat → Prop} {k : Int} {back : Bool} {r v : Int} (h : IsNext p k back r) (h' : IsNext q k back v) (hr : 0 ≤ r) (hv : 0 ≤ v) (hc : match back with | true => v ≤ r | false => r ≤ v) :
    IsNext (fun x => p x ∨ q x) k back r := by
  rcases h with ⟨rfl, h⟩ | ⟨x, rfl, h1, h2, h3⟩
  · omega
  rcases h' with ⟨rfl, h'⟩ | ⟨y, rfl, h1', h2', h3'⟩
  · omega
  refine .inr ⟨x, rfl, h1, .inl h2, fun u hu hp => ?_⟩
  rcases hp with hp | hp
  · exact h3 u hu hp
  · have := h3' u hu hp
    cases back <;> simp only at hc this ⊢ <;> omega

/-- The bits of the words W. -/
def Bit (W : Nat → Nat) (i : Nat) : Prop := (W (i / 64)).testBit (i % 64) = true

theorem bit_word {W : Nat → Nat} {i : Nat} (h : Bit W i) : W (i / 64) ≠ 0 := by
  intro e
  rw [Bit, e] at h
  simp at h

theorem bit_at (W : Nat → Nat) (v c : Nat) (hc : c < 64) : Bit W (64 * v + c) ↔ (W v).testBit c = true := by
  unfold Bit
  rw [show (64 * v + c) / 64 = v by omega, show (64 * v + c) % 64 = c by omega]

/-- Forward, in the word itself. -/
theorem next_here {W : Nat → Nat} {i : Int} {w0 s x : Nat} (hs : s < 64) (hi : i + 1 = ((64 * w0 + s : Nat) : Int)) (hx : ∀ j, x.testBit j = ((W w0).testBit j && decide (s ≤ j))) (hlt : x < 18446744073709551616) (h0 : x ≠ 0) :
    IsNext (Bit W) i false (((w0 : Int) * 64) + (Lib.ctz 64 x : Nat)) := by
  obtain ⟨c1, c2, c3⟩ := ctz_bits x h0 hlt
  rw [hx] at c2
  simp only [Bool.and_eq_true, decide_eq_true_eq] at c2
  refine .inr ⟨64 * w0 + Lib.ctz 64 x, by omega, ?_, (bit_at W _ _ c1).2 c2.1, ?_⟩
  · show i < _; omega
  · intro u hu hb
    show _ ≤ u
    have hu' : i < (u : Int) := hu
    rcases Nat.lt_or_ge (u / 64) (w0 + 1) with h | h
    · have e : u / 64 = w0 := by omega
      have : x.testBit (u % 64) = true := by
        rw [hx]
        unfold Bit at hb
        rw [e] at hb
        simp only [hb, Bool.true_and, decide_eq_true_eq]
        omega
      have := c3 _ this
      omega
    · omega

/-- Forward, in a later word, or nowhere. -/
theorem next_later {W : Nat → Nat} {i : Int} {w0 s x : Nat} {r : Int} (hs : s < 64) (hi : i + 1 = ((64 * w0 + s : Nat) : Int)) (hx : ∀ j, x.testBit j = ((W w0).testBit j && decide (s ≤ j))) (h0 : x = 0)
    (hW : ∀ v, W v < 18446744073709551616) (hr : IsNext (fun v => W v ≠ 0) w0 false r) :
    (r < 0 → IsNext (Bit W) i false (-1)) ∧ (0 ≤ r → W r.toNat ≠ 0 ∧ IsNext (Bit W) i false (r * 64 + (Lib.ctz 64 (W r.toNat) : Nat))) := by
  have none : ∀ u : Nat, i < (u : Int) → Bit W u → (w0 : Int) < ((u / 64 : Nat) : Int) := by
    intro u hu hb
    rcases Nat.lt_or_ge (u / 64) (w0 + 1) with h | h
    · exfalso
      have e : u / 64 = w0 := by omega
      have : x.testBit (u % 64) = true := by
        rw [hx]
        unfold Bit at hb
        rw [e] at hb
        simp only [hb, Bool.true_and, decide_eq_true_eq]
        omega
      rw [h0] at this
      simp at this
    · omega
  rcases hr with ⟨rfl, hr⟩ | ⟨v, rfl, h1, h2, h3⟩
  · refine ⟨fun _ => .inl ⟨rfl, fun u hu hb => ?_⟩, fun h => by omega⟩
    exact hr (u / 64) (none u hu hb) (bit_word hb)
  · refine ⟨fun h => by omega, fun _ => ?_⟩
    rw [Int.toNat_natCast]
    obtain ⟨c1, c2, c3⟩ := ctz_bits (W v) h2 (hW v)
    have h1' : (w0 : Int) < (v : Int) := h1
    refine ⟨h2, .inr ⟨64 * v + Lib.ctz 64 (W v), by omega, ?_, (bit_at W _ _ c1).2 c2, ?_⟩⟩
    · show i < _; omega
    · intro u hu hb
      show _ ≤ u
      have a := h3 (u / 64) (none u hu hb) (bit_word hb)
      have a' : v ≤ u / 64 := a
      rcases Nat.lt_or_ge v (u / 64) with h | h
      · omega
      · have e : u / 64 = v := by omega
        unfold Bit at hb
        rw [e] at hb
        have := c3 _ hb
        omega

/-- Back, in the word itself. -/
theorem prev_here {W : Nat → Nat} {i : Int} {w0 s x : Nat} (hs : s < 64) (hi : i = ((64 * w0 + s : Nat) : Int) + 1) (hx : ∀ j, x.testBit j = ((W w0).testBit j && decide (j ≤ s))) (hlt : x < 18446744073709551616) (h0 : x ≠ 0) :
    IsNext (Bit W) i true (((w0 : Int) * 64) + (Lib.bitLen x : Nat) - 1) := by
  obtain ⟨c0, c1, c2, c3⟩ := bitLen_bits x h0 hlt
  rw [hx] at c2
  simp only [Bool.and_eq_true, decide_eq_true_eq] at c2
  refine .inr ⟨64 * w0 + (Lib.bitLen x - 1), by omega, ?_, (bit_at W _ _ (by omega)).2 c2.1, ?_⟩
  · show _ < i; omega
  · intro u hu hb
    show u ≤ _
    have hu' : (u : Int) < i := hu
    rcases Nat.lt_or_ge (u / 64) w0 with h | h
    · omega
    · have e : u / 64 = w0 := by omega
      have : x.testBit (u % 64) = true := by
        rw [hx]
        unfold Bit at hb
        rw [e] at hb
        simp only [hb, Bool.true_and, decide_eq_true_eq]
        omega
      have := c3 _ this
      omega

/-- Back, in an earlier word, or nowhere. -/
theorem prev_earlier {W : Nat → Nat} {i : Int} {w0 s x : Nat} {r : Int} (hs : s < 64) (hi : i = ((64 * w0 + s : Nat) : Int) + 1) (hx : ∀ j, x.testBit j = ((W w0).testBit j && decide (j ≤ s))) (h0 : x = 0)
    (hW : ∀ v, W v < 18446744073709551616) (hr : IsNext (fun v => W v ≠ 0) w0 true r) :
    (r < 0 → IsNext (Bit W) i true (-1)) ∧ (0 ≤ r → W r.toNat ≠ 0 ∧ IsNext (Bit W) i true (r * 64 + (Lib.bitLen (W r.toNat) : Nat) - 1)) := by
  have none : ∀ u : Nat, (u : Int) < i → Bit W u → ((u / 64 : Nat) : Int) < (w0 : Int) := by
    intro u hu hb
    rcases Nat.lt_or_ge (u / 64) w0 with h | h
    · omega
    · exfalso
      have e : u / 64 = w0 := by omega
      have : x.testBit (u % 64) = true := by
        rw [hx]
        unfold Bit at hb
        rw [e] at hb
        simp only [hb, Bool.true_and, decide_eq_true_eq]
        omega
      rw [h0] at this
      simp at this
  rcases hr with ⟨rfl, hr⟩ | ⟨v, rfl, h1, h2, h3⟩
  · refine ⟨fun _ => .inl ⟨rfl, fun u hu hb => ?_⟩, fun h => by omega⟩
    exact hr (u / 64) (none u hu hb) (bit_word hb)
  · refine ⟨fun h => by omega, fun _ => ?_⟩
    rw [Int.toNat_natCast]
    obtain ⟨c0, c1, c2, c3⟩ := bitLen_bits (W v) h2 (hW v)
    have h1' : (v : Int) < (w0 : Int) := h1
    refine ⟨h2, .inr ⟨64 * v + (Lib.bitLen (W v) - 1), by omega, ?_, (bit_at W _ _ (by omega)).2 c2, ?_⟩⟩
    · show _ < i; omega
    · intro u hu hb
      show u ≤ _
      have a := h3 (u / 64) (none u hu hb) (bit_word hb)
      have a' : u / 64 ≤ v := a
      rcases Nat.lt_or_ge (u / 64) v with h | h
      · omega
      · have e : u / 64 = v := by omega
        unfold Bit at hb
        rw [e] at hb
        have := c3 _ hb
        omega

/-- Back from nought or less there is nothing. -/
theorem prev_none {p : Nat → Prop} {i : Int} (h : i ≤ 0) : IsNext p i true (-1) := .inl ⟨rfl, fun v hv => by
  have : (v : Int) < i := hv
  omega⟩

end Go.Proofs.YbulkaqnyDoor

/-
  MEMORY BUT FOR SOME CELLS ('Kept'), AND WHAT AN indexSet IS IN MEMORY ('IsSet'). Own work on this program; nothing of the loaded program is named here.
-/
import Derived.WalkKit
namespace Go.Proofs.YbulkaqnyDoor
open Go Go.RowKit

/-- w' is w but for the cells that T lets go, and for new blocks. -/
structure Kept (T : Nat → Nat → Prop) (w w' : World) : Prop where
  os : w'.os = w.os
  tape : w'.tape = w.tape
  output : w'.output = w.output
  size : w.heap.size ≤ w'.heap.size
  block : ∀ k, k < w.heap.size → (∀ o, ¬ T k o) → w'.heap[k]? = w.heap[k]?
  cell : ∀ k o, k < w.heap.size → ¬ T k o → w'.cell? ⟨k, o, none⟩ = w.cell? ⟨k, o, none⟩
  frozen : ∀ k o, k < w.heap.size → w'.frozen? ⟨k, o, none⟩ = w.frozen? ⟨k, o, none⟩

theorem Kept.refl (T : Nat → Nat → Prop) (w : World) : Kept T w w :=
  ⟨rfl, rfl, rfl, Nat.le_refl _, fun _ _ _ => rfl, fun _ _ _ _ => rfl, fun _ _ _ => rfl⟩

theorem Kept.trans {T : Nat → Nat → Prop} {a b c : World} (h : Kept T a b) (k : Kept T b c) : Kept T a c :=
  ⟨k.os.trans h.os, k.tape.trans h.tape, k.output.trans h.output, Nat.le_trans h.size k.size,
   fun i hi ht => (k.block i (Nat.lt_of_lt_of_le hi h.size) ht).trans (h.block i hi ht),
   fun i o hi ht => (k.cell i o (Nat.lt_of_lt_of_le hi h.size) ht).trans (h.cell i o hi ht),
   fun i o hi => (k.frozen i o (Nat.lt_of_lt_of_le hi h.size)).trans (h.frozen i o hi)⟩

/-- What is let go may be more; of a block that was not there yet nothing is said. -/
theorem Kept.mono {T T' : Nat → Nat → Prop} {w w' : World} (h : Kept T w w') (hT : ∀ k o, k < w.heap.size → T k o → T' k o) : Kept T' w w' :=
  ⟨h.os, h.tape, h.output, h.size, fun k hk ht => h.block k hk (fun o => fun x => ht o (hT k o hk x)), fun k o hk ht => h.cell k o hk (fun x => ht (hT k o hk x)), h.frozen⟩

theorem Kept.drew {T : Nat → Nat → Prop} {a w : World} (h : Kept T a w) : Kept T a w.drew :=
  ⟨h.os, h.tape, h.output, h.size, h.block, h.cell, h.frozen⟩

theorem Kept.alloc {T : Nat → Nat → Prop} {a w : World} (h : Kept T a w) (o : Obj) : Kept T a (w.alloc o) :=
  h.trans ⟨rfl, rfl, rfl, by simp, fun k hk _ => Below.heap_alloc _ _ _ hk, fun k j hk _ => World.cell?_of_block (w := w) (Below.heap_alloc _ _ _ hk),
    fun k j hk => World.frozen?_of_block (w := w) (Below.heap_alloc _ _ _ hk)⟩

theorem addr_ne {b o k j : Nat} (h : ¬ (k = b ∧ j = o)) : (⟨b, o, none⟩ : Addr) ≠ ⟨k, j, none⟩ := by
  intro e; injection e with e1 e2; exact h ⟨e1.symm, e2.symm⟩

/-- A store at a cell that T lets go, or in a block that is new. -/
theorem Kept.setCell {T : Nat → Nat → Prop} {a w : World} (h : Kept T a w) {b o : Nat} (hp : T b o ∨ a.heap.size ≤ b) (u : Value) : Kept T a (w.setCell ⟨b, o, none⟩ u) := by
  refine ⟨h.os, h.tape, h.output, by simpa [World.setCell] using h.size, fun k hk ht => ?_, fun k j hk ht => ?_, fun k j hk => (World.frozen?_setCell w _ _ _).trans (h.frozen k j hk)⟩
  · refine (Below.heap_setCell w ⟨b, o, none⟩ u k ?_).trans (h.block k hk ht)
    rintro rfl
    rcases hp with hp | hp
    · exact ht o hp
    · exact absurd hk (Nat.not_lt.2 hp)
  · refine (World.cell?_setCell_other w ⟨b, o, none⟩ ⟨k, j, none⟩ u (addr_ne ?_)).trans (h.cell k j hk ht)
    rintro ⟨rfl, rfl⟩
    rcases hp with hp | hp
    · exact ht hp
    · omega

theorem Kept.below {T : Nat → Nat → Prop} {w w' : World} (h : Kept T w w') {B : Nat} (hB : ∀ k o, k < B → ¬ T k o) (hs : B ≤ w.heap.size) : Below B w w' :=
  ⟨h.os, h.tape, h.output, h.size, fun k hk => h.block k (by omega) (fun o => hB k o hk)⟩

theorem Kept.of_below {T : Nat → Nat → Prop} {w w' : World} (h : Below w.heap.size w w') : Kept T w w' :=
  ⟨h.os, h.tape, h.output, h.size, fun k hk _ => h.block k hk, fun k o hk _ => h.cell (p := ⟨k, o, none⟩) hk, fun k o hk => h.frozen (p := ⟨k, o, none⟩) hk⟩

/-- The cells of a set whose struct lies at ⟨b, o⟩ and whose other blocks are F. -/
def Foot (b o : Nat) (F : List Nat) (k j : Nat) : Prop := (k = b ∧ (j = o ∨ j = o + 1)) ∨ k ∈ F

/-- Block bh is a row of the words cs, none of them frozen. -/
structure Row (w : World) (bh cap : Nat) (cs : List Nat) : Prop where
  csl : cs.length = cap
  row : ∀ j, j < cap → w.cell? ⟨bh, j, none⟩ = some (.int .u64 (cs.getD j 0))
  rowF : ∀ j, j < cap → w.frozen? ⟨bh, j, none⟩ = false
  lt : bh < w.heap.size
  capb : cap ≤ 9223372036854775807
theorem Row.move {w w' : World} {bh cap : Nat} {cs : List Nat} {T : Nat → Nat → Prop} (h : Row w bh cap cs) (hk : Kept T w w') (hT : ∀ j, ¬ T bh j) : Row w' bh cap cs :=
  ⟨h.csl, fun j hj => (hk.cell _ _ h.lt (hT _)).trans (h.row j hj), fun j hj => (hk.frozen _ _ h.lt).trans (h.rowF j hj), Nat.lt_of_lt_of_le h.lt hk.size, h.capb⟩

/-- What holds of every set, with a second level or without. -/
structure Base (w : World) (F : List Nat) (b o : Nat) (f : Nat → Nat) : Prop where
  low : w.cell? ⟨b, o, none⟩ = some (.int .u64 (f 0))
  lowF : w.frozen? ⟨b, o, none⟩ = false
  moreF : w.frozen? ⟨b, o + 1, none⟩ = false
  small : ∀ k, f k < 18446744073709551616
  nodup : (b :: F).Nodup
  lt : ∀ x ∈ b :: F, x < w.heap.size

/-- A set without a second level: one word. -/
structure Leaf (w : World) (F : List Nat) (b o : Nat) (f : Nat → Nat) : Prop extends Base w F b o f where
  more : w.cell? ⟨b, o + 1, none⟩ = some (.pointer none)
  zero : ∀ k, 0 < k → f k = 0
  none' : F = []

/-- A set with a second level: 'Up' says what the set above is. -/
structure Node (Up : List Nat → Nat → Nat → (Nat → Nat) → Prop) (w : World) (F : List Nat) (b o : Nat) (f : Nat → Nat) (bm bh len cap : Nat) (cs : List Nat) (F' : List Nat) (g : Nat → Nat) : Prop extends Base w F b o f where
  more : w.cell? ⟨b, o + 1, none⟩ = some (.pointer (some ⟨bm, 0, none⟩))
  high : w.cell? ⟨bm, 0, none⟩ = some (.slice (some ⟨bh, 0, none⟩) len cap)
  highF : w.frozen? ⟨bm, 0, none⟩ = false
  len1 : 1 ≤ len
  lenc : len ≤ cap
  rw' : Row w bh cap cs
  is : ∀ j, j < len → cs.getD j 0 = f (j + 1)
  zero : ∀ k, len < k → f k = 0
  up : Up F' bm 1 g
  foot : F = bm :: bh :: F'

/-- The set above holds the indices of the words that are not nought. -/
def Bits (g f : Nat → Nat) : Prop := ∀ k, (g (k / 64)).testBit (k % 64) = decide (f k ≠ 0)

def IsSet : Nat → World → List Nat → Nat → Nat → (Nat → Nat) → Prop
  | 0, w, F, b, o, f => Leaf w F b o f
  | n + 1, w, F, b, o, f => Leaf w F b o f ∨ ∃ bm bh len cap cs F' g, Node (IsSet n w) w F b o f bm bh len cap cs F' g ∧ Bits g f

theorem IsSet.base : ∀ {n : Nat} {w : World} {F : List Nat} {b o : Nat} {f : Nat → Nat}, IsSet n w F b o f → Base w F b o f
  | 0, _, _, _, _, _, h => h.toBase
  | _ + 1, _, _, _, _, _, .inl h => h.toBase
  | _ + 1, _, _, _, _, _, .inr ⟨_, _, _, _, _, _, _, h, _⟩ => h.toBase

theorem Base.move {w w' : World} {F : List Nat} {b o : Nat} {f : Nat → Nat} {T : Nat → Nat → Prop} (h : Base w F b o f) (hk : Kept T w w') (hT : ∀ k j, Foot b o F k j → ¬ T k j) : Base w' F b o f :=
  have hb : b < w.heap.size := h.lt b (by simp)
  ⟨(hk.cell b o hb (hT b o (.inl ⟨rfl, .inl rfl⟩))).trans h.low, (hk.frozen b o hb).trans h.lowF, (hk.frozen b (o + 1) hb).trans h.moreF, h.small, h.nodup,
    fun x hx => Nat.lt_of_lt_of_le (h.lt x hx) hk.size⟩

/-- A set with a second level is what it was where none of its cells is let go. -/
theorem Node.move {Up Up' : List Nat → Nat → Nat → (Nat → Nat) → Prop} {w w' : World} {F : List Nat} {b o : Nat} {f : Nat → Nat} {bm bh len cap : Nat} {cs F' : List Nat} {g : Nat → Nat} {T : Nat → Nat → Prop}
    (h : Node Up w F b o f bm bh len cap cs F' g) (hk : Kept T w w') (hT : ∀ k j, Foot b o F k j → ¬ T k j) (hup : Up' F' bm 1 g) : Node Up' w' F b o f bm bh len cap cs F' g := by
  have hb : b < w.heap.size := h.toBase.lt b (by simp)
  have hF := h.foot
  have hm : bm < w.heap.size := h.toBase.lt bm (by simp [hF])
  have tm : ∀ j, ¬ T bm j := fun j => hT bm j (.inr (by simp [hF]))
  have th : ∀ j, ¬ T bh j := fun j => hT bh j (.inr (by simp [hF]))
  exact ⟨h.toBase.move hk hT, (hk.cell b (o + 1) hb (hT _ _ (.inl ⟨rfl, .inr rfl⟩))).trans h.more, (hk.cell _ _ hm (tm _)).trans h.high, (hk.frozen _ _ hm).trans h.highF, h.len1, h.lenc,
    h.rw'.move hk th, h.is, h.zero, hup, h.foot⟩

/-- A set is what it was where none of its cells is let go. -/
theorem IsSet.move : ∀ {n : Nat} {w w' : World} {F : List Nat} {b o : Nat} {f : Nat → Nat} {T : Nat → Nat → Prop}, IsSet n w F b o f → Kept T w w' → (∀ k j, Foot b o F k j → ¬ T k j) → IsSet n w' F b o f := by
  intro n
  induction n with
  | zero =>
    intro w w' F b o f T h hk hT
    have hb : b < w.heap.size := h.toBase.lt b (by simp)
    exact ⟨h.toBase.move hk hT, (hk.cell b (o + 1) hb (hT _ _ (.inl ⟨rfl, .inr rfl⟩))).trans h.more, h.zero, h.none'⟩
  | succ n ih =>
    intro w w' F b o f T h hk hT
    rcases h with h | ⟨bm, bh, len, cap, cs, F', g, h, hbit⟩
    · have hb : b < w.heap.size := h.toBase.lt b (by simp)
      exact .inl ⟨h.toBase.move hk hT, (hk.cell b (o + 1) hb (hT _ _ (.inl ⟨rfl, .inr rfl⟩))).trans h.more, h.zero, h.none'⟩
    · have hF := h.foot
      refine .inr ⟨bm, bh, len, cap, cs, F', g, h.move hk hT (ih h.up hk (fun k j hj => ?_)), hbit⟩
      rcases hj with ⟨rfl, _⟩ | hj
      · exact hT _ j (.inr (by simp [hF]))
      · exact hT k j (.inr (by simp [hF, hj]))

/-- The index i laid into the words. -/
def put (f : Nat → Nat) (i : Nat) (k : Nat) : Nat := if k = i / 64 then f k ||| 2 ^ (i % 64) else f k


theorem put_ne (f : Nat → Nat) (i k : Nat) : (put f i k ≠ 0) ↔ (f k ≠ 0 ∨ k = i / 64) := by
  unfold put
  by_cases h : k = i / 64
  · simp only [h, if_true]
    have : f (i / 64) ||| 2 ^ (i % 64) ≠ 0 := by
      intro h0
      have := congrArg (fun x => x.testBit (i % 64)) h0
      simp [Nat.testBit_or, Nat.testBit_two_pow_self] at this
    simp [this]
  · simp [h]

theorem put_small (f : Nat → Nat) (i : Nat) (h : ∀ k, f k < 18446744073709551616) : ∀ k, put f i k < 18446744073709551616 := by
  intro k
  unfold put
  split
  · exact Nat.or_lt_two_pow (n := 64) (h k) (Nat.pow_lt_pow_right (by omega) (Nat.mod_lt _ (by omega)))
  · exact h k

/-- A bit of the set above, an index laid into it. -/
theorem put_bit (g : Nat → Nat) (k x : Nat) : ((put g k) (x / 64)).testBit (x % 64) = ((g (x / 64)).testBit (x % 64) || decide (x = k)) := by
  unfold put
  by_cases h : x / 64 = k / 64
  · simp only [h, if_true]
    rw [Nat.testBit_or, Nat.testBit_two_pow]
    congr 1
    have : (k % 64 = x % 64) ↔ (x = k) := by omega
    simp [this]
  · have : ¬ x = k := by intro e; subst e; exact h rfl
    simp [h, this]


variable {n : Nat} {w w1 : World} {F : List Nat} {b o : Nat} {f : Nat → Nat} {bm bh len cap : Nat} {cs F' F2 : List Nat} {g g2 : Nat → Nat}

/-- What of a set is not the set above is as it was behind a call that turns the set above alone. -/
theorem Node.off (h : Node (IsSet n w) w F b o f bm bh len cap cs F' g) : (∀ k j, Foot bm 1 F' k j → k ≠ b) ∧ (∀ k j, Foot bm 1 F' k j → k ≠ bh) ∧ ¬ Foot bm 1 F' bm 0 ∧ b ≠ bm ∧ b ≠ bh ∧ bm ≠ bh := by
  have hF := h.foot
  have hn := h.toBase.nodup
  rw [hF] at hn
  simp only [List.nodup_cons, List.mem_cons, not_or] at hn
  obtain ⟨⟨n1, n2, n3⟩, ⟨n4, n5⟩, n6, n7⟩ := hn
  refine ⟨?_, ?_, ?_, n1, n2, n4⟩
  · rintro k j (⟨rfl, _⟩ | hk) rfl
    · exact n1 rfl
    · exact n3 hk
  · rintro k j (⟨rfl, _⟩ | hk) rfl
    · exact n4 rfl
    · exact n6 hk
  · rintro (⟨_, h | h⟩ | hk)
    · cases h
    · cases h
    · exact n5 hk

theorem Node.above (h : Node (IsSet n w) w F b o f bm bh len cap cs F' g) (hs : IsSet n w1 F2 bm 1 g2) (hK : Kept (Foot bm 1 F') w w1) (hF2 : ∀ x ∈ F2, x ∈ F' ∨ w.heap.size ≤ x) :
    Node (IsSet n w1) w1 (bm :: bh :: F2) b o f bm bh len cap cs F2 g2 := by
  obtain ⟨hb, hh, hm0, n1, n2, n4⟩ := h.off
  have hF := h.foot
  have lb : b < w.heap.size := h.toBase.lt b (by simp)
  have lm : bm < w.heap.size := h.toBase.lt bm (by simp [hF])
  have lh : bh < w.heap.size := h.rw'.lt
  have hn := h.toBase.nodup
  rw [hF] at hn
  simp only [List.nodup_cons, List.mem_cons, not_or] at hn
  have hs1 := hs.base.nodup
  simp only [List.nodup_cons] at hs1
  refine ⟨⟨(hK.cell b o lb (fun x => hb _ _ x rfl)).trans h.toBase.low, (hK.frozen b o lb).trans h.toBase.lowF, (hK.frozen b (o + 1) lb).trans h.toBase.moreF, h.toBase.small, ?_, ?_⟩,
    (hK.cell b (o + 1) lb (fun x => hb _ _ x rfl)).trans h.more, (hK.cell bm 0 lm hm0).trans h.high, (hK.frozen bm 0 lm).trans h.highF, h.len1, h.lenc, h.rw'.move hK (fun j x => hh _ _ x rfl), h.is, h.zero, hs, rfl⟩
  · simp only [List.nodup_cons, List.mem_cons, not_or]
    refine ⟨⟨n1, n2, fun x => ?_⟩, ⟨n4, hs1.1⟩, fun x => ?_, hs1.2⟩
    · rcases hF2 _ x with y | y
      · exact hn.1.2.2 y
      · omega
    · rcases hF2 _ x with y | y
      · exact hn.2.2.1 y
      · omega
  · intro x hx
    have hsz := hK.size
    simp only [List.mem_cons] at hx
    rcases hx with rfl | rfl | rfl | hx
    · omega
    · omega
    · omega
    · exact hs.base.lt x (by simp [hx])

theorem cell_set_same {w : World} {b o : Nat} {u v : Value} (h : w.cell? ⟨b, o, none⟩ = some u) : (w.setCell ⟨b, o, none⟩ v).cell? ⟨b, o, none⟩ = some v := World.cell?_setCell_same w _ _ h

/-- Word 0 is stored. -/
theorem Node.set0 (h : Node (IsSet n w) w F b o f bm bh len cap cs F' g) (i : Nat) (hi : i / 64 = 0) (v : Value) (hv : v = .int .u64 (put f i 0)) :
    Node (IsSet n (w.setCell ⟨b, o, none⟩ v).drew) (w.setCell ⟨b, o, none⟩ v).drew F b o (put f i) bm bh len cap cs F' g := by
  have hk : Kept (fun x y => x = b ∧ y = o) w (w.setCell ⟨b, o, none⟩ v).drew := ((Kept.refl _ w).setCell (.inl ⟨rfl, rfl⟩) v).drew
  obtain ⟨hb, hh, hm0, n1, n2, n4⟩ := h.off
  have hF := h.foot
  have lb : b < w.heap.size := h.toBase.lt b (by simp)
  have lm : bm < w.heap.size := h.toBase.lt bm (by simp [hF])
  have hp : ∀ k, 0 < k → put f i k = f k := fun k hk => by unfold put; rw [hi, if_neg (by omega)]
  refine ⟨⟨?_, (hk.frozen b o lb).trans h.toBase.lowF, (hk.frozen b (o + 1) lb).trans h.toBase.moreF, put_small f i h.toBase.small, h.toBase.nodup, fun x hx => Nat.lt_of_lt_of_le (h.toBase.lt x hx) hk.size⟩,
    (hk.cell b (o + 1) lb (by simp)).trans h.more, (hk.cell bm 0 lm (by simp; omega)).trans h.high, (hk.frozen bm 0 lm).trans h.highF, h.len1, h.lenc, h.rw'.move hk (by simp; omega),
    fun j hj => by rw [hp _ (by omega)]; exact h.is j hj, fun k hk => by rw [hp _ (by omega)]; exact h.zero k hk, ?_, hF⟩
  · subst hv
    exact cell_set_same h.toBase.low
  · refine h.up.move hk (fun k j hj => ?_)
    rintro ⟨rfl, _⟩
    exact hb _ _ hj rfl

/-- Word k, 1 ≤ k ≤ len, is stored. -/
theorem Node.setk (h : Node (IsSet n w) w F b o f bm bh len cap cs F' g) (i k : Nat) (hi : i / 64 = k + 1) (hl : k < len) (v : Value) (hv : v = .int .u64 (put f i (k + 1))) :
    Node (IsSet n (w.setCell ⟨bh, k, none⟩ v).drew) (w.setCell ⟨bh, k, none⟩ v).drew F b o (put f i) bm bh len cap (cs.set k (put f i (k + 1))) F' g := by
  have hk : Kept (fun x y => x = bh ∧ y = k) w (w.setCell ⟨bh, k, none⟩ v).drew := ((Kept.refl _ w).setCell (.inl ⟨rfl, rfl⟩) v).drew
  obtain ⟨hb, hh, hm0, n1, n2, n4⟩ := h.off
  have hF := h.foot
  have lb : b < w.heap.size := h.toBase.lt b (by simp)
  have lm : bm < w.heap.size := h.toBase.lt bm (by simp [hF])
  have lh := h.rw'.lt
  have hlc := h.lenc
  have hp : ∀ x, x ≠ k + 1 → put f i x = f x := fun x hx => by unfold put; rw [hi, if_neg hx]
  have hcl := h.rw'.csl
  refine ⟨⟨?_, (hk.frozen b o lb).trans h.toBase.lowF, (hk.frozen b (o + 1) lb).trans h.toBase.moreF, put_small f i h.toBase.small, h.toBase.nodup, fun x hx => Nat.lt_of_lt_of_le (h.toBase.lt x hx) hk.size⟩,
    (hk.cell b (o + 1) lb (by simp; omega)).trans h.more, (hk.cell bm 0 lm (by simp; omega)).trans h.high, (hk.frozen bm 0 lm).trans h.highF, h.len1, h.lenc, ?_,
    ?_, fun x hx => by rw [hp _ (by omega)]; exact h.zero x hx, ?_, hF⟩
  · rw [hp _ (by omega)]; exact (hk.cell b o lb (by simp; omega)).trans h.toBase.low
  · refine ⟨by simp [hcl], fun j hj => ?_, fun j hj => (hk.frozen _ _ lh).trans (h.rw'.rowF j hj), Nat.lt_of_lt_of_le lh hk.size, h.rw'.capb⟩
    by_cases e : j = k
    · subst e
      subst hv
      rw [List.getD_eq_getElem?_getD, List.getElem?_set_self (by omega)]
      exact cell_set_same (h.rw'.row j hj)
    · rw [List.getD_eq_getElem?_getD, List.getElem?_set_ne (by omega), ← List.getD_eq_getElem?_getD]
      exact (hk.cell _ _ lh (by simp; omega)).trans (h.rw'.row j hj)
  · intro j hj
    by_cases e : j = k
    · subst e
      rw [List.getD_eq_getElem?_getD, List.getElem?_set_self (by omega)]
      rfl
    · rw [List.getD_eq_getElem?_getD, List.getElem?_set_ne (by omega), ← List.getD_eq_getElem?_getD, hp _ (by omega)]
      exact h.is j hj
  · refine h.up.move hk (fun x j hj => ?_)
    rintro ⟨rfl, _⟩
    exact hh _ _ hj rfl

end Go.Proofs.YbulkaqnyDoor

/-
  WHAT THE LAW HAS BUILT BEHIND SO MANY ROUNDS.
-/
import Derived.Test.YbulkaqnyDoorWalkS
import Derived.Test.YbulkaqnyDoorAdd5
namespace Go.Proofs.YbulkaqnyDoor
open Go.RowKit

/-- The union's block is the first of the call's own, the table's the second; the sets built so far lie above both and below 'hi'. -/
structure Out (w0 wr : World) (hi k : Nat) (P : Nat → Nat × Nat) (ff : Nat → Nat → Nat) (pr : Nat → Bool) : Prop where
  bel : Below w0.heap.size w0 wr
  size : w0.heap.size + 2 ≤ wr.heap.size
  hi1 : w0.heap.size + 2 ≤ hi
  cnt : wr.cell? ⟨w0.heap.size, 5, none⟩ = some (.int .i64 k)
  ptr : ∀ j, j < k → wr.cell? ⟨w0.heap.size, j, none⟩ = some (.pointer (some ⟨(P j).1, (P j).2, none⟩))
  rest : ∀ j, k ≤ j → j < 5 → wr.cell? ⟨w0.heap.size, j, none⟩ = some (.pointer none)
  frU : ∀ j, wr.frozen? ⟨w0.heap.size, j, none⟩ = false
  pre : ∀ v, v < 128 → wr.cell? ⟨w0.heap.size + 1, v, none⟩ = some (.bool (pr v))
  frP : ∀ v, wr.frozen? ⟨w0.heap.size + 1, v, none⟩ = false
  olds : ∀ j, j < k → ∃ F, IsSet 2 wr F (P j).1 (P j).2 (ff j) ∧ ∀ x ∈ (P j).1 :: F, w0.heap.size + 1 < x ∧ x < hi
  zero : ∀ j v, 128 ≤ v → ff j v = 0

variable {w0 wr w1 : World} {hi k : Nat} {P : Nat → Nat × Nat} {ff : Nat → Nat → Nat} {pr : Nat → Bool}

theorem Out.move (h : Out w0 wr hi k P ff pr) {T : Nat → Nat → Prop} (hK : Kept T wr w1) (hT : ∀ x y, T x y → hi ≤ x) : Out w0 w1 hi k P ff pr := by
  have h1 := h.hi1
  have hs := h.size
  have n0 : ∀ j, ¬ T w0.heap.size j := fun j x => by have := hT _ _ x; omega
  have n1 : ∀ j, ¬ T (w0.heap.size + 1) j := fun j x => by have := hT _ _ x; omega
  refine ⟨h.bel.trans (hK.below (fun x o hx ht => by have := hT _ _ ht; omega) (by omega)), Nat.le_trans hs hK.size, h1, (hK.cell _ _ (by omega) (n0 _)).trans h.cnt, fun j hj => (hK.cell _ _ (by omega) (n0 _)).trans (h.ptr j hj),
    fun j a b => (hK.cell _ _ (by omega) (n0 _)).trans (h.rest j a b), fun j => (hK.frozen _ _ (by omega)).trans (h.frU j), fun v hv => (hK.cell _ _ (by omega) (n1 _)).trans (h.pre v hv), fun j => (hK.frozen _ _ (by omega)).trans (h.frP j), fun j hj => ?_, h.zero⟩
  obtain ⟨F, hF, hx⟩ := h.olds j hj
  refine ⟨F, hF.move hK (fun x y hxy ht => ?_), hx⟩
  have := hT _ _ ht
  rcases hxy with ⟨rfl, _⟩ | hxy
  · have := hx (P j).1 (by simp); omega
  · have := hx x (by simp [hxy]); omega

/-- The table's word v is set. -/
theorem Out.store (h : Out w0 wr hi k P ff pr) (v : Nat) (hv : v < 128) : Out w0 (wr.setCell ⟨w0.heap.size + 1, v, none⟩ (.bool true)) hi k P ff (fun x => if x = v then true else pr x) := by
  have h1 := h.hi1
  have hs := h.size
  have hK : Kept (fun x y => x = w0.heap.size + 1 ∧ y = v) wr (wr.setCell ⟨w0.heap.size + 1, v, none⟩ (.bool true)) := (Kept.refl _ wr).setCell (.inl ⟨rfl, rfl⟩) _
  refine ⟨h.bel.setCell (by simp) _, Nat.le_trans hs hK.size, h1, (hK.cell _ _ (by omega) (by omega)).trans h.cnt, fun j hj => (hK.cell _ _ (by omega) (by omega)).trans (h.ptr j hj),
    fun j a b => (hK.cell _ _ (by omega) (by omega)).trans (h.rest j a b), fun j => (hK.frozen _ _ (by omega)).trans (h.frU j), fun x hx => ?_, fun j => (hK.frozen _ _ (by omega)).trans (h.frP j), fun j hj => ?_, h.zero⟩
  · by_cases e : x = v
    · subst e
      rw [if_pos rfl]
      exact cell_set_same (h.pre x hx)
    · rw [if_neg e]
      exact (hK.cell _ _ (by omega) (by omega)).trans (h.pre x hx)
  · obtain ⟨F, hF, hx⟩ := h.olds j hj
    refine ⟨F, hF.move hK (fun x y hxy ht => ?_), hx⟩
    rcases hxy with ⟨rfl, _⟩ | hxy
    · have := hx (P j).1 (by simp); omega
    · have := hx x (by simp [hxy]); omega

/-- One set more in the union. -/
theorem Out.push (h : Out w0 wr hi k P ff pr) (hk : k < 5) {F : List Nat} {b : Nat} {f : Nat → Nat} (hs : IsSet 2 wr F b 0 f) (hF : ∀ x ∈ b :: F, hi ≤ x) (hf : ∀ v, 128 ≤ v → f v = 0) (hh : hi ≤ wr.heap.size)
    (hw : w1 = ((wr.setCell ⟨w0.heap.size, k, none⟩ (.pointer (some ⟨b, 0, none⟩))).setCell ⟨w0.heap.size, 5, none⟩ (.int .i64 ((k : Int) + 1))).drew) :
    Out w0 w1 w1.heap.size (k + 1) (fun j => if j = k then (b, 0) else P j) (fun j => if j = k then f else ff j) pr := by
  have h1 := h.hi1
  have hsz := h.size
  have hK : Kept (fun x y => x = w0.heap.size ∧ (y = k ∨ y = 5)) wr w1 := hw ▸ (((Kept.refl _ wr).setCell (.inl ⟨rfl, .inl rfl⟩) _).setCell (.inl ⟨rfl, .inr rfl⟩) _).drew
  have hs1 := hK.size
  have hbel : Below w0.heap.size wr w1 := hK.below (fun x o hx ht => by omega) (by omega)
  refine ⟨h.bel.trans hbel, by omega, by omega, ?_, fun j hj => ?_, fun j a b => ?_, fun j => (hK.frozen _ _ (by omega)).trans (h.frU j), fun v hv => (hK.cell _ _ (by omega) (by omega)).trans (h.pre v hv), fun j => (hK.frozen _ _ (by omega)).trans (h.frP j), fun j hj => ?_, fun j v hv => ?_⟩
  · subst hw
    have : ((k : Int) + 1) = ((k + 1 : Nat) : Int) := by omega
    rw [← this]
    refine cell_set_same (u := .int .i64 k) ((World.cell?_setCell_other _ _ _ _ (addr_ne (by omega))).trans h.cnt)
  · by_cases e : j = k
    · subst e
      simp only [if_true]
      subst hw
      refine (World.cell?_setCell_other _ _ _ _ (addr_ne (by omega))).trans ?_
      exact cell_set_same (h.rest j (Nat.le_refl _) hk)
    · simp only [e, if_false]
      exact (hK.cell _ _ (by omega) (by omega)).trans (h.ptr j (by omega))
  · exact (hK.cell _ _ (by omega) (by omega)).trans (h.rest j (by omega) b)
  · by_cases e : j = k
    · subst e
      simp only [if_true]
      refine ⟨F, hs.move hK (fun x y hxy ht => ?_), fun x hx => ?_⟩
      · rcases hxy with ⟨rfl, _⟩ | hxy
        · have := hF x (by simp); omega
        · have := hF x (by simp [hxy]); omega
      · have := hF x hx
        have := hs.base.lt x hx
        omega
    · simp only [e, if_false]
      obtain ⟨F, hF, hx⟩ := h.olds j (by omega)
      refine ⟨F, hF.move hK (fun x y hxy ht => ?_), fun x y => by have := hx x y; omega⟩
      rcases hxy with ⟨rfl, _⟩ | hxy
      · have := hx (P j).1 (by simp); omega
      · have := hx x (by simp [hxy]); omega
  · by_cases e : j = k
    · simp only [e, if_true]; exact hf v hv
    · simp only [e, if_false]; exact h.zero j v hv

theorem Out.union (h : Out w0 wr hi k P ff pr) (hk : k ≤ 5) : IsUnion 2 wr w0.heap.size k P ff :=
  ⟨hk, h.cnt, h.ptr, fun j hj => by obtain ⟨F, hF, _⟩ := h.olds j hj; exact ⟨F, hF⟩, by have := h.size; omega⟩

/-- A new set, empty. -/
theorem new_set (wr : World) : IsSet 2 (wr.alloc (.cells #[.int .u64 0, .pointer none] 33)) [] wr.heap.size 0 (fun _ => 0) := by
  refine .inl ⟨⟨?_, by simp, by simp, by simp, by simp, by simp⟩, ?_, fun _ _ => rfl, rfl⟩
  · rw [World.cell?_alloc_new]; rfl
  · rw [World.cell?_alloc_new]; rfl

/-- While one set is filled: it lies at the head of block bs, above all others. -/
structure Inn (w0 wx : World) (bs k : Nat) (P : Nat → Nat × Nat) (ff : Nat → Nat → Nat) (pr : Nat → Bool) (F : List Nat) (f : Nat → Nat) : Prop where
  out : Out w0 wx bs k P ff pr
  set : IsSet 2 wx F bs 0 f
  big : ∀ x ∈ bs :: F, bs ≤ x
  zero : ∀ v, 128 ≤ v → f v = 0
  link : ∀ v, v < 128 → (pr v = true ↔ (∃ t, t < k ∧ ff t v ≠ 0) ∨ f v ≠ 0)

theorem Inn.start (h : Out w0 wr wr.heap.size k P ff pr) (hl : ∀ v, v < 128 → (pr v = true ↔ ∃ t, t < k ∧ ff t v ≠ 0)) :
    Inn w0 (wr.alloc (.cells #[.int .u64 0, .pointer none] 33)) wr.heap.size k P ff pr [] (fun _ => 0) :=
  ⟨h.move (T := fun _ _ => False) ((Kept.refl _ wr).alloc _) (fun _ _ x => x.elim), new_set wr, by simp, fun _ _ => rfl, fun v hv => by rw [hl v hv]; simp⟩

theorem Inn.step {bs i : Nat} {wx : World} {F F' : List Nat} {f : Nat → Nat} (h : Inn w0 wx bs k P ff pr F f) (hi : i < 8192) (hs : IsSet 2 w1 F' bs 0 (put f i)) (hK : Kept (Foot bs 0 F) wx w1) (hF : ∀ x ∈ F', x ∈ F ∨ wx.heap.size ≤ x) :
    Inn w0 (w1.setCell ⟨w0.heap.size + 1, i / 64, none⟩ (.bool true)) bs k P ff (fun x => if x = i / 64 then true else pr x) F' (put f i) := by
  have hbs : bs < wx.heap.size := h.set.base.lt bs (by simp)
  have h1 := h.out.hi1
  have hlt : i / 64 < 128 := by omega
  have hbig : ∀ x ∈ bs :: F', bs ≤ x := by
    intro x hx
    simp only [List.mem_cons] at hx
    rcases hx with rfl | hx
    · exact Nat.le_refl _
    · rcases hF x hx with y | y
      · exact h.big x (by simp [y])
      · omega
  refine ⟨(h.out.move hK (fun x y hxy => ?_)).store (i / 64) hlt, hs.move (T := fun x y => x = w0.heap.size + 1 ∧ y = i / 64) ((Kept.refl _ w1).setCell (.inl ⟨rfl, rfl⟩) _) (fun x y hxy ht => ?_), hbig, fun v hv => ?_, fun v hv => ?_⟩
  · rcases hxy with ⟨rfl, _⟩ | hxy
    · exact Nat.le_refl _
    · exact h.big x (by simp [hxy])
  · rcases hxy with ⟨rfl, _⟩ | hxy
    · omega
    · have := hbig x (by simp [hxy]); omega
  · have := put_ne f i v
    have hz := h.zero v hv
    rcases Nat.eq_zero_or_pos (put f i v) with e | e
    · exact e
    · rcases this.1 (by omega) with a | a
      · exact absurd hz a
      · omega
  · have hp := put_ne f i v
    by_cases e : v = i / 64
    · simp only [e, if_true, true_iff]
      exact .inr ((put_ne f i (i / 64)).2 (.inr rfl))
    · simp only [e, if_false]
      rw [h.link v hv, hp]
      simp [e]

theorem Inn.done {bs : Nat} {wx : World} {F : List Nat} {f : Nat → Nat} (h : Inn w0 wx bs k P ff pr F f) (hk : k < 5)
    (hw : w1 = ((wx.setCell ⟨w0.heap.size, k, none⟩ (.pointer (some ⟨bs, 0, none⟩))).setCell ⟨w0.heap.size, 5, none⟩ (.int .i64 ((k : Int) + 1))).drew) :
    ∃ P' ff', Out w0 w1 w1.heap.size (k + 1) P' ff' pr ∧ ∀ v, v < 128 → (pr v = true ↔ ∃ t, t < k + 1 ∧ ff' t v ≠ 0) := by
  have hbs : bs < wx.heap.size := h.set.base.lt bs (by simp)
  refine ⟨_, _, h.out.push hk h.set h.big h.zero (by omega) hw, fun v hv => ?_⟩
  rw [h.link v hv]
  constructor
  · rintro (⟨t, ht, e⟩ | e)
    · exact ⟨t, by omega, by rw [if_neg (by omega)]; exact e⟩
    · exact ⟨k, by omega, by rw [if_pos rfl]; exact e⟩
  · rintro ⟨t, ht, e⟩
    by_cases c : t = k
    · rw [if_pos c] at e; exact .inr e
    · rw [if_neg c] at e; exact .inl ⟨t, by omega, e⟩

theorem Inn.adds {bs : Nat} {wx : World} {F : List Nat} {f : Nat → Nat} (h : Inn w0 wx bs k P ff pr F f) (hk : k < 5) :
    Calls Ybad.prog 5 #[.pointer (some ⟨w0.heap.size, 0, none⟩), .pointer (some ⟨bs, 0, none⟩)] wx fun e w' => e = .returned (.tuple #[]) ∧
      w' = ((wx.setCell ⟨w0.heap.size, k, none⟩ (.pointer (some ⟨bs, 0, none⟩))).setCell ⟨w0.heap.size, 5, none⟩ (.int .i64 ((k : Int) + 1))).drew :=
  uadd_any w0.heap.size k bs 0 _ wx hk h.out.cnt (h.out.frU _) (h.out.rest k (Nat.le_refl _) hk) (h.out.frU _)
end Go.Proofs.YbulkaqnyDoor

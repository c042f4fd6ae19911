/-
  A ROW OF WORDS THAT HAS GROWN, SAID OF MEMORY.
-/
import Derived.Test.YbulkaqnyDoorHeap
import Derived.Laws.IdiomCopy
namespace Go.Proofs.YbulkaqnyDoor
open Go Go.RowKit

theorem Kept.setCells {T : Nat → Nat → Prop} {a : World} {b : Nat} (hp : ∀ j, T b j ∨ a.heap.size ≤ b) : ∀ (vs : List Value) (o : Nat) {w : World}, Kept T a w → Kept T a (w.setCells b o vs)
  | [], _, _, h => h
  | v :: r, o, _, h => Kept.setCells hp r (o + 1) (h.setCell (hp o) v)

/-- Two steps, the second over what the first has laid, too. -/
theorem Kept.trans' {T T' : Nat → Nat → Prop} {a b c : World} (h : Kept T a b) (k : Kept T' b c) (hT : ∀ x y, x < a.heap.size → T' x y → T x y) : Kept T a c := by
  have hsz := h.size
  exact ⟨k.os.trans h.os, k.tape.trans h.tape, k.output.trans h.output, Nat.le_trans h.size k.size,
    fun i hi ht => (k.block i (by omega) (fun o x => ht o (hT i o hi x))).trans (h.block i hi ht),
    fun i o hi ht => (k.cell i o (by omega) (fun x => ht (hT i o hi x))).trans (h.cell i o hi ht),
    fun i o hi => (k.frozen i o (by omega)).trans (h.frozen i o hi)⟩

/-- The words behind the growth: nought from len up to k. -/
def regrown (cs : List Nat) (len k c : Nat) : List Nat := (List.range c).map fun j => if len ≤ j ∧ j ≤ k then 0 else cs.getD j 0

theorem regrown_getD (cs : List Nat) (len k c j : Nat) (h : j < c) : (regrown cs len k c).getD j 0 = if len ≤ j ∧ j ≤ k then 0 else cs.getD j 0 := by
  unfold regrown
  rw [List.getD_eq_getElem?_getD, List.getElem?_map, List.getElem?_range h]
  rfl

/-- The world behind 's.more.high = Grow(..)[:k+1]; clear(s.more.high[len:])'. -/
def regrownWorld (w1 : World) (bm bh len k c : Nat) : World := (w1.setCell ⟨bm, 0, none⟩ (.slice (some ⟨bh, 0, none⟩) (k + 1) c)).setCells bh len (List.replicate (k + 1 - len) (.int .u64 0))

theorem regrown_kept {w1 : World} {bm bh len k c : Nat} : Kept (fun x y => (x = bm ∧ y = 0) ∨ x = bh) w1 (regrownWorld w1 bm bh len k c) :=
  Kept.setCells (fun _ => .inl (.inr rfl)) _ _ ((Kept.refl _ w1).setCell (.inl (.inl ⟨rfl, rfl⟩)) _)

theorem regrown_row {w1 : World} {bm bh len k c : Nat} {cs : List Nat} (hr : Row w1 bh c cs) (hne : bm ≠ bh) (hc : k + 1 ≤ c) (hl : len ≤ k) : Row (regrownWorld w1 bm bh len k c) bh c (regrown cs len k c) := by
  have hk := regrown_kept (w1 := w1) (bm := bm) (bh := bh) (len := len) (k := k) (c := c)
  refine ⟨by simp [regrown], fun j hj => ?_, fun j hj => (hk.frozen _ _ hr.lt).trans (hr.rowF j hj), Nat.lt_of_lt_of_le hr.lt hk.size, hr.capb⟩
  have old : ∀ j, j < c → (w1.setCell ⟨bm, 0, none⟩ (.slice (some ⟨bh, 0, none⟩) (k + 1) c)).cell? ⟨bh, j, none⟩ = some (.int .u64 (cs.getD j 0)) := fun j hj =>
    (World.cell?_setCell_other w1 _ _ _ (addr_ne (by rintro ⟨h, _⟩; exact hne h.symm))).trans (hr.row j hj)
  rw [regrown_getD _ _ _ _ _ hj]
  by_cases h : len ≤ j ∧ j ≤ k
  · rw [if_pos h]
    obtain ⟨t, rfl⟩ : ∃ t, j = len + t := ⟨j - len, by omega⟩
    have := World.cell?_setCells_in bh (List.replicate (k + 1 - len) (.int .u64 0)) len (w1.setCell ⟨bm, 0, none⟩ (.slice (some ⟨bh, 0, none⟩) (k + 1) c))
      (fun x hx => by rw [old _ (by simp at hx; omega)]; rfl) t (by simp; omega)
    rw [List.getElem_replicate] at this
    exact this
  · rw [if_neg h]
    refine (World.cell?_setCells_out bh _ _ _ _ (fun _ _ => ?_)).trans (old j hj)
    simp
    omega

/-- THE SET BEHIND THE GROWTH. -/
theorem regrown_node {n : Nat} {w w1 : World} {b o bm bh c k len : Nat} {f g : Nat → Nat} {F' cs : List Nat} {hv : Value}
    (hlow : w.cell? ⟨b, o, none⟩ = some (.int .u64 (f 0))) (hlowF : w.frozen? ⟨b, o, none⟩ = false) (hmoreF : w.frozen? ⟨b, o + 1, none⟩ = false) (small : ∀ k, f k < 18446744073709551616)
    (hmore : w.cell? ⟨b, o + 1, none⟩ = some (.pointer (some ⟨bm, 0, none⟩))) (hhf : w.frozen? ⟨bm, 0, none⟩ = false) (hhigh : w.cell? ⟨bm, 0, none⟩ = some hv)
    (hup : IsSet n w F' bm 1 g) (hnd : (b :: bm :: F').Nodup) (lb : b < w.heap.size) (hK : Kept (fun _ _ => False) w w1) (hr : Row w1 bh c cs) (hbh : bh ∉ b :: bm :: F')
    (hc : k + 1 ≤ c) (hl : len ≤ k) (his : ∀ j, j < len → cs.getD j 0 = f (j + 1)) (hz : ∀ x, len < x → f x = 0) :
    Node (IsSet n (regrownWorld w1 bm bh len k c)) (regrownWorld w1 bm bh len k c) (bm :: bh :: F') b o f bm bh (k + 1) c (regrown cs len k c) F' g := by
  have hk := regrown_kept (w1 := w1) (bm := bm) (bh := bh) (len := len) (k := k) (c := c)
  have hk2 := (hK.mono (T' := fun x y => (x = bm ∧ y = 0) ∨ x = bh) (fun _ _ _ h => h.elim)).trans hk
  have hbase := hup.base
  have lm : bm < w.heap.size := hbase.lt bm (by simp)
  simp only [List.mem_cons, not_or] at hbh
  simp only [List.nodup_cons, List.mem_cons, not_or] at hnd
  obtain ⟨h1, h2, h3⟩ := hbh
  obtain ⟨⟨n1, n2⟩, n3, n4⟩ := hnd
  refine ⟨⟨(hk2.cell b o lb (by rintro (⟨h, _⟩ | h) <;> omega)).trans hlow, (hk2.frozen b o lb).trans hlowF, (hk2.frozen b (o + 1) lb).trans hmoreF, small, ?_, ?_⟩,
    (hk2.cell b (o + 1) lb (by rintro (⟨h, _⟩ | h) <;> omega)).trans hmore, ?_, (hk2.frozen bm 0 lm).trans hhf, by omega, hc, regrown_row hr (fun e => h2 e.symm) hc hl, fun j hj => ?_, fun x hx => hz x (by omega), ?_, rfl⟩
  · simp only [List.nodup_cons, List.mem_cons, not_or]
    exact ⟨⟨n1, fun e => h1 e.symm, n2⟩, ⟨fun e => h2 e.symm, n3⟩, h3, n4⟩
  · intro x hx
    have := hk2.size
    have := hk.size
    have := hr.lt
    simp only [List.mem_cons] at hx
    rcases hx with rfl | rfl | rfl | hx
    · omega
    · omega
    · omega
    · have := hbase.lt x (by simp [hx]); omega
  · refine (World.cell?_setCells_out bh _ _ _ _ (fun h _ => absurd h (fun e => h2 e.symm))).trans ?_
    exact cell_set_same ((hK.cell bm 0 lm (fun h => h)).trans hhigh)
  · rw [regrown_getD _ _ _ _ _ (by omega)]
    by_cases h : len ≤ j
    · rw [if_pos ⟨h, by omega⟩, hz (j + 1) (by omega)]
    · rw [if_neg (by omega), his j (by omega)]
  · refine hup.move hk2 (fun x j hj => ?_)
    rcases hj with ⟨rfl, hj⟩ | hj
    · rintro (⟨_, h⟩ | h)
      · omega
      · exact h2 h.symm
    · rintro (⟨rfl, _⟩ | rfl)
      · exact n3 hj
      · exact h3 hj
end Go.Proofs.YbulkaqnyDoor

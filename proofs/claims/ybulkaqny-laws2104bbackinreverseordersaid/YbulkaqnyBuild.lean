/-
  zzs2104bbuild.
-/
import Derived.Test.YbulkaqnyTake
import Derived.Test.YbulkaqnyLane
import Derived.Laws.MakeOwn
namespace Go.Proofs.Ybulkaqny
open Go.RowKit

theorem info37 : (Yba.prog.info? 37).map (fun i => (i.zero, i.size, i.bytes)) = some (some (.agg #[.pointer none, .pointer none, .pointer none, .int .u8 0, .bool false, .bool false, .pointer none, .pointer none, .pointer none, .pointer none, .pointer none, .pointer none, .int .u64 0]), 13, 88) := by kernel_rfl

def lockCells : Array Value := #[.string { data := #[] }, .int .u64 0, .slice none 0 0, .int .i64 0, .int .i64 0, .int .i64 0, .int .i64 0, .int .i64 0, .int .i64 0, .int .i64 0, .int .i64 0, .int .i64 0, .int .i64 0, .int .i64 0, .int .i64 0, .int .i64 0, .int .u64 0, .pointer none, .int .u64 0, .pointer none, .int .u64 0, .pointer none, .int .u64 0, .pointer none, .int .u64 0, .pointer none, .int .u64 0, .pointer none, .pointer none, .pointer none, .pointer none, .pointer none, .pointer none, .pointer none, .pointer none, .pointer none, .pointer none, .pointer none, .pointer none, .pointer none, .pointer none, .pointer none, .pointer none, .pointer none, .pointer none, .pointer none, .pointer none, .pointer none, .pointer none, .pointer none, .pointer none, .pointer none, .pointer none, .pointer none, .pointer none, .pointer none, .pointer none, .pointer none, .pointer none, .pointer none, .pointer none, .int .u8 0, .int .u64 0]
def reqCells : Array Value := #[.pointer none, .pointer none, .pointer none, .int .u8 0, .bool false, .bool false, .pointer none, .pointer none, .pointer none, .pointer none, .pointer none, .pointer none, .int .u64 0]
def sixNil : Array Value := #[.pointer none, .pointer none, .pointer none, .pointer none, .pointer none, .pointer none]

/-- The five blocks that the build lays: the requests, the lock, the walk, the heads, the tails. -/
def startWorld (w : World) (n : Nat) (back : Bool) : World :=
  ((((w.alloc (.cells (madeCells reqCells (n * 13)) 37)).alloc (.cells lockCells 56)).alloc (.cells #[.pointer (some ⟨w.heap.size + 1, 0, none⟩), .pointer none, .pointer none, .pointer none, .pointer none, .pointer none, .pointer none, .int .u8 0, .bool back] 60)).alloc (.cells sixNil 57)).alloc (.cells sixNil 57)

/-- The offset of the link to the next request of the mode, and of the one to the previous one. -/
def onx (back : Bool) : Nat := if back then 9 else 11
def opv (back : Bool) : Nat := if back then 8 else 10

/-- What cell c of request j holds when i requests are laid. -/
def reqCell (br : Nat) (md : Nat → Nat) (back : Bool) (i j c : Nat) : Value :=
  if c = 3 then .int .u8 (if j < i then (md j : Int) else 0)
  else if c = 4 then .bool false else if c = 5 then .bool false
  else if c = 12 then .int .u64 (if j < i then (j : Int) + 1 else 0)
  else if c = onx back then .pointer (adr br (if j < i then nxt md (md j) (j + 1) i else none))
  else if c = opv back then .pointer (adr br (if j < i then prv md (md j) j else none))
  else .pointer none

/-- What is laid behind i rounds. -/
structure Built (w0 wr : World) (n i : Nat) (md : Nat → Nat) (back : Bool) (L : Nat) : Prop where
  bel : Below w0.heap.size w0 wr
  size : w0.heap.size + 5 ≤ wr.heap.size
  req : ∀ j, j < n → ∀ c, c < 13 → wr.cell? ⟨w0.heap.size, j * 13 + c, none⟩ = some (reqCell w0.heap.size md back i j c)
  fr : ∀ x j, w0.heap.size ≤ x → x < w0.heap.size + 5 → wr.frozen? ⟨x, j, none⟩ = false
  ord : wr.cell? ⟨w0.heap.size + 1, 61, none⟩ = some (.int .u8 0)
  lock : wr.cell? ⟨w0.heap.size + 1 + 1, 0, none⟩ = some (.pointer (some ⟨w0.heap.size + 1, 0, none⟩))
  fronts : ∀ m, m < 6 → wr.cell? ⟨w0.heap.size + 1 + 1, 1 + m, none⟩ = some (.pointer none)
  left : wr.cell? ⟨w0.heap.size + 1 + 1, 7, none⟩ = some (.int .u8 L)
  bk : wr.cell? ⟨w0.heap.size + 1 + 1, 8, none⟩ = some (.bool back)
  heads : ∀ m, m < 6 → wr.cell? ⟨w0.heap.size + 1 + 1 + 1, m, none⟩ = some (.pointer (adr w0.heap.size (nxt md m 0 i)))
  tails : ∀ m, m < 6 → wr.cell? ⟨w0.heap.size + 1 + 1 + 1 + 1, m, none⟩ = some (.pointer (adr w0.heap.size (prv md m i)))
  lt : L < 64
  bit : ∀ m, m < 6 → L.testBit m = (prv md m i).isSome

theorem six_get (m : Nat) (h : m < 6) : sixNil[m]? = some (.pointer none) := by
  match m, h with
  | 0, _ => rfl
  | 1, _ => rfl
  | 2, _ => rfl
  | 3, _ => rfl
  | 4, _ => rfl
  | 5, _ => rfl

theorem start_built (w : World) (n : Nat) (md : Nat → Nat) (back : Bool) : Built w (startWorld w n back) n 0 md back 0 := by
  have s1 : ∀ o, (w.alloc o).heap.size = w.heap.size + 1 := fun o => by simp
  have s2 : ∀ o p, ((w.alloc o).alloc p).heap.size = w.heap.size + 1 + 1 := fun o p => by simp
  have s3 : ∀ o p q, (((w.alloc o).alloc p).alloc q).heap.size = w.heap.size + 1 + 1 + 1 := fun o p q => by simp
  have s4 : ∀ o p q r, ((((w.alloc o).alloc p).alloc q).alloc r).heap.size = w.heap.size + 1 + 1 + 1 + 1 := fun o p q r => by simp
  have c0 : ∀ j, (startWorld w n back).cell? ⟨w.heap.size, j, none⟩ = (madeCells reqCells (n * 13))[j]? := fun j => by
    refine (World.cell?_alloc_past _ _ _ (by rw [s4]; omega)).trans ((World.cell?_alloc_past _ _ _ (by rw [s3]; omega)).trans ((World.cell?_alloc_past _ _ _ (by rw [s2]; omega)).trans ((World.cell?_alloc_past _ _ _ (by rw [s1]; omega)).trans ?_)))
    exact World.cell?_alloc_new _ _ _ _
  have c1 : ∀ j, (startWorld w n back).cell? ⟨w.heap.size + 1, j, none⟩ = lockCells[j]? := fun j => by
    refine (World.cell?_alloc_past _ _ _ (by rw [s4]; omega)).trans ((World.cell?_alloc_past _ _ _ (by rw [s3]; omega)).trans ((World.cell?_alloc_past _ _ _ (by rw [s2]; omega)).trans ?_))
    exact World.cell?_alloc_at _ _ _ _ (s1 _).symm
  have c2 : ∀ j, (startWorld w n back).cell? ⟨w.heap.size + 1 + 1, j, none⟩ = (#[.pointer (some ⟨w.heap.size + 1, 0, none⟩), .pointer none, .pointer none, .pointer none, .pointer none, .pointer none, .pointer none, .int .u8 0, .bool back] : Array Value)[j]? := fun j => by
    refine (World.cell?_alloc_past _ _ _ (by rw [s4]; omega)).trans ((World.cell?_alloc_past _ _ _ (by rw [s3]; omega)).trans ?_)
    exact World.cell?_alloc_at _ _ _ _ (s2 _ _).symm
  have c3 : ∀ j, (startWorld w n back).cell? ⟨w.heap.size + 1 + 1 + 1, j, none⟩ = sixNil[j]? := fun j => by
    refine (World.cell?_alloc_past _ _ _ (by rw [s4]; omega)).trans ?_
    exact World.cell?_alloc_at _ _ _ _ (s3 _ _ _).symm
  have c4 : ∀ j, (startWorld w n back).cell? ⟨w.heap.size + 1 + 1 + 1 + 1, j, none⟩ = sixNil[j]? := fun j => World.cell?_alloc_at _ _ _ _ (s4 _ _ _ _).symm
  refine ⟨?_, by simp [startWorld], fun j hj c hc => ?_, fun x j h1 h2 => ?_, c1 61, c2 0, fun m hm => ?_, c2 7, c2 8, fun m hm => (c3 m).trans (six_get m hm), fun m hm => (c4 m).trans (six_get m hm), by omega, fun m hm => by simp [prv]⟩
  · exact (((((Below.refl _ w).alloc (Nat.le_refl _) _).alloc (by simp) _).alloc (by simp; omega) _).alloc (by simp; omega) _).alloc (by simp; omega) _
  · rw [c0]
    have : (madeCells reqCells (n * 13))[j * 13 + c]? = some (reqCells[c]!) := by
      have hlt : j * 13 + c < n * 13 := by omega
      simp only [madeCells]
      rw [Array.getElem?_map, Array.getElem?_range, if_pos hlt]
      have e : (j * 13 + c) % reqCells.size = c := by
        show (j * 13 + c) % 13 = c
        omega
      simp [e]
    rw [this]
    congr 1
    have h0 : ∀ i, ¬ (i < 0) := fun i => by omega
    match c, hc with
    | 0, _ => cases back <;> rfl
    | 1, _ => cases back <;> rfl
    | 2, _ => cases back <;> rfl
    | 3, _ => simp [reqCell, h0, reqCells]
    | 4, _ => rfl
    | 5, _ => rfl
    | 6, _ => cases back <;> rfl
    | 7, _ => cases back <;> rfl
    | 8, _ => cases back <;> simp [reqCell, onx, opv, reqCells, adr]
    | 9, _ => cases back <;> simp [reqCell, onx, opv, reqCells, adr]
    | 10, _ => cases back <;> simp [reqCell, onx, opv, reqCells, adr]
    | 11, _ => cases back <;> simp [reqCell, onx, opv, reqCells, adr]
    | 12, _ => simp [reqCell, h0, reqCells]
  · have : (startWorld w n back).frozen? ⟨x, j, none⟩ = w.frozen? ⟨x, j, none⟩ := by
      simp only [startWorld, frozen?_alloc_cells]
    rw [this]
    have hno : w.heap[x]? = none := Array.getElem?_eq_none h1
    simp [World.frozen?, hno]
  · rw [c2]
    match m, hm with
    | 0, _ => rfl
    | 1, _ => rfl
    | 2, _ => rfl
    | 3, _ => rfl
    | 4, _ => rfl
    | 5, _ => rfl

/-- A cell behind a store. -/
theorem cell_set (w : World) (b o b' o' : Nat) (v : Value) : (w.setCell ⟨b, o, none⟩ v).cell? ⟨b', o', none⟩ = if b' = b ∧ o' = o then (w.cell? ⟨b', o', none⟩).map (fun _ => v) else w.cell? ⟨b', o', none⟩ := by
  by_cases h : b' = b ∧ o' = o
  · rw [if_pos h]
    obtain ⟨rfl, rfl⟩ := h
    cases hc : w.cell? ⟨b', o', none⟩ with
    | some u => exact cell_set_same hc
    | none =>
      have : ∀ u, (w.setCell ⟨b', o', none⟩ v).cell? ⟨b', o', none⟩ ≠ some u := by
        intro u hu
        simp only [World.cell?, World.setCell, Array.getElem?_modify] at hu hc
        cases hb : w.heap[b']? with
        | none => rw [hb] at hu; simp at hu
        | some x =>
          rw [hb] at hu hc
          cases x <;> simp at hu hc
          rename_i cs e fz
          rw [Array.getElem?_setIfInBounds] at hu
          split at hu
          · split at hu
            · omega
            · cases hu
          · rw [Array.getElem?_eq_none hc] at hu; cases hu
      cases hx : (w.setCell ⟨b', o', none⟩ v).cell? ⟨b', o', none⟩ with
      | none => rfl
      | some u => exact absurd hx (this u)
  · rw [if_neg h]
    exact World.cell?_setCell_other w _ _ _ (addr_ne h)

/-- The requests' cells behind one request more. -/
theorem reqCell_succ (br : Nat) (md : Nat → Nat) (back : Bool) (i j c : Nat) : reqCell br md back (i + 1) j c =
    if j = i then (if c = 3 then .int .u8 (md i) else if c = 12 then .int .u64 ((i : Int) + 1) else if c = opv back then .pointer (adr br (prv md (md i) i)) else reqCell br md back i j c)
    else if c = onx back ∧ prv md (md i) i = some j then .pointer (adr br (some i)) else reqCell br md back i j c := by
  by_cases e : j = i
  · subst e
    rw [if_pos rfl]
    have hself : nxt md (md j) (j + 1) (j + 1) = none := nxt_eq_none (fun x a b => by omega)
    have h1 : j < j + 1 := by omega
    have h2 : ¬ (j < j) := by omega
    unfold reqCell
    simp only [h1, h2, if_true, if_false, hself]
    cases back <;> simp only [onx, opv, Bool.false_eq_true, if_true, if_false] <;> (repeat' split) <;> first | rfl | omega
  · rw [if_neg e]
    have hp : prv md (md i) i = some j → j < i := fun h => (prv_some h).1
    rcases Nat.lt_or_ge j i with hj | hj
    · have h1 : j < i + 1 := by omega
      have hl := link_more (md := md) hj
      unfold reqCell
      simp only [h1, hj, if_true, hl]
      cases back <;> simp only [onx, opv, Bool.false_eq_true, if_true, if_false] <;> by_cases hq : prv md (md i) i = some j <;> simp only [hq, if_true, if_false, and_true, and_false] <;> (repeat' split) <;> first | rfl | omega
    · have h1 : ¬ (j < i + 1) := by omega
      have h2 : ¬ (j < i) := by omega
      have hq : ¬ (prv md (md i) i = some j) := fun h => h2 (hp h)
      unfold reqCell
      simp only [h1, h2, if_false, hq, and_false]

variable {w0 wr : World} {n i L : Nat} {md : Nat → Nat} {back : Bool}

/-- The world behind a round that met a new mode. -/
def newWorld (w0 wr : World) (i m : Nat) (v : Value) : World :=
  ((((wr.setCell ⟨w0.heap.size, i * 13 + 3, none⟩ (.int .u8 m)).setCell ⟨w0.heap.size, i * 13 + 12, none⟩ (.int .u64 ((i : Int) + 1))).setCell ⟨w0.heap.size + 1 + 1 + 1, m, none⟩ (.pointer (some ⟨w0.heap.size, i * 13, none⟩))).setCell ⟨w0.heap.size + 1 + 1, 7, none⟩ v).setCell ⟨w0.heap.size + 1 + 1 + 1 + 1, m, none⟩ (.pointer (some ⟨w0.heap.size, i * 13, none⟩))

/-- The world behind a round that met a mode again. -/
def oldWorld (w0 wr : World) (i m t : Nat) (back : Bool) : World :=
  ((((wr.setCell ⟨w0.heap.size, i * 13 + 3, none⟩ (.int .u8 m)).setCell ⟨w0.heap.size, i * 13 + 12, none⟩ (.int .u64 ((i : Int) + 1))).setCell ⟨w0.heap.size, t * 13 + onx back, none⟩ (.pointer (some ⟨w0.heap.size, i * 13, none⟩))).setCell ⟨w0.heap.size, i * 13 + opv back, none⟩ (.pointer (some ⟨w0.heap.size, t * 13, none⟩))).setCell ⟨w0.heap.size + 1 + 1 + 1 + 1, m, none⟩ (.pointer (some ⟨w0.heap.size, i * 13, none⟩))

theorem Built.new (h : Built w0 wr n i md back L) (hi : i < n) (hm : 1 ≤ md i ∧ md i ≤ 5) (hp : prv md (md i) i = none) (v : Value) (hv : v = .int .u8 ((L ||| 2 ^ md i : Nat) : Int)) : Built w0 (newWorld w0 wr i (md i) v) n (i + 1) md back (L ||| 2 ^ md i) := by
  obtain ⟨a1, a2, a3⟩ := add_of h.lt (show md i < 6 by omega)
  have hsz := h.size
  have hK : Kept (fun x _ => w0.heap.size ≤ x) wr (newWorld w0 wr i (md i) v) := (((((Kept.refl (fun x _ => w0.heap.size ≤ x) wr).setCell (.inl (by omega)) _).setCell (.inl (by omega)) _).setCell (.inl (by omega)) _).setCell (.inl (by omega)) _).setCell (.inl (by omega)) _
  refine ⟨h.bel.trans (hK.below (fun k o hk ht => by omega) (by omega)), Nat.le_trans hsz hK.size, fun j hj c hc => ?_, fun x j h1 h2 => (hK.frozen x j (by omega)).trans (h.fr x j h1 h2), ?_, ?_, fun m hm' => ?_, ?_, ?_, fun m hm' => ?_, fun m hm' => ?_, a2, fun m hm' => ?_⟩
  · rw [reqCell_succ]
    have hr := h.req j hj c hc
    simp only [newWorld, cell_set]
    rw [if_neg (by omega), if_neg (by omega), if_neg (by omega)]
    by_cases e : j = i
    · subst e
      rw [if_pos rfl]
      by_cases e12 : c = 12
      · subst e12
        rw [if_pos (by simp), if_neg (by omega), hr]
        rfl
      · rw [if_neg (by omega)]
        by_cases e3 : c = 3
        · subst e3
          rw [if_pos (by simp), hr]
          rfl
        · rw [if_neg (by omega), if_neg e3, if_neg e12, hr]
          by_cases eo : c = opv back
          · rw [if_pos eo, hp]
            subst eo
            cases back <;> simp [reqCell, onx, opv]
          · rw [if_neg eo]
    · rw [if_neg (by omega), if_neg (by omega), if_neg e, hr, hp]
      simp
  · simp only [newWorld, cell_set]
    rw [if_neg (by omega), if_neg (by omega), if_neg (by omega), if_neg (by omega), if_neg (by omega)]
    exact h.ord
  · simp only [newWorld, cell_set]
    rw [if_neg (by omega), if_neg (by omega), if_neg (by omega), if_neg (by omega), if_neg (by omega)]
    exact h.lock
  · simp only [newWorld, cell_set]
    rw [if_neg (by omega), if_neg (by omega), if_neg (by omega), if_neg (by omega), if_neg (by omega)]
    exact h.fronts m hm'
  · simp only [newWorld, cell_set]
    rw [if_neg (by omega), if_pos (by simp), if_neg (by omega), if_neg (by omega), if_neg (by omega), h.left, hv]
    rfl
  · simp only [newWorld, cell_set]
    rw [if_neg (by omega), if_neg (by omega), if_neg (by omega), if_neg (by omega), if_neg (by omega)]
    exact h.bk
  · simp only [newWorld, cell_set]
    rw [head_more, if_neg (by omega), if_neg (by omega)]
    by_cases e : m = md i
    · subst e
      rw [if_pos (by simp), if_neg (by omega), if_neg (by omega), h.heads _ hm', if_pos ⟨rfl, hp⟩]
      rfl
    · rw [if_neg (by omega), if_neg (by omega), if_neg (by omega), h.heads m hm', if_neg (by intro x; exact e x.1.symm)]
  · simp only [newWorld, cell_set]
    by_cases e : m = md i
    · subst e
      rw [if_pos (by simp), if_neg (by omega), if_neg (by omega), if_neg (by omega), if_neg (by omega), h.tails _ hm', prv_here]
      rfl
    · rw [if_neg (by omega), if_neg (by omega), if_neg (by omega), if_neg (by omega), if_neg (by omega), h.tails m hm', prv_step (fun x => e x.symm)]
  · rw [a3 m hm', h.bit m hm']
    by_cases e : m = md i
    · subst e
      rw [prv_here]; simp
    · rw [prv_step (fun x => e x.symm)]; simp [e]

theorem Built.old (h : Built w0 wr n i md back L) (hi : i < n) (hm : 1 ≤ md i ∧ md i ≤ 5) {t : Nat} (hp : prv md (md i) i = some t) : Built w0 (oldWorld w0 wr i (md i) t back) n (i + 1) md back L := by
  obtain ⟨ht, htm, _⟩ := prv_some hp
  have hsz := h.size
  have ho1 : onx back = 9 ∨ onx back = 11 := by cases back <;> simp [onx]
  have ho2 : opv back = 8 ∨ opv back = 10 := by cases back <;> simp [opv]
  have hK : Kept (fun x _ => w0.heap.size ≤ x) wr (oldWorld w0 wr i (md i) t back) := (((((Kept.refl (fun x _ => w0.heap.size ≤ x) wr).setCell (.inl (by omega)) _).setCell (.inl (by omega)) _).setCell (.inl (by omega)) _).setCell (.inl (by omega)) _).setCell (.inl (by omega)) _
  refine ⟨h.bel.trans (hK.below (fun k o hk ht => by omega) (by omega)), Nat.le_trans hsz hK.size, fun j hj c hc => ?_, fun x j h1 h2 => (hK.frozen x j (by omega)).trans (h.fr x j h1 h2), ?_, ?_, fun m hm' => ?_, ?_, ?_, fun m hm' => ?_, fun m hm' => ?_, h.lt, fun m hm' => ?_⟩
  · rw [reqCell_succ, hp]
    have hr := h.req j hj c hc
    simp only [oldWorld, cell_set]
    rw [if_neg (by omega)]
    by_cases e : j = i
    · subst e
      rw [if_pos rfl]
      by_cases eo : c = opv back
      · rw [if_pos ⟨trivial, by omega⟩, if_neg (by omega), if_neg (by omega), if_neg (by omega), hr, if_neg (by omega), if_neg (by omega), if_pos eo]
        rfl
      · rw [if_neg (by omega), if_neg (by omega)]
        by_cases e12 : c = 12
        · subst e12
          rw [if_pos (by simp), if_neg (by omega), hr]
          rfl
        · rw [if_neg (by omega)]
          by_cases e3 : c = 3
          · subst e3
            rw [if_pos (by simp), hr]
            rfl
          · rw [if_neg (by omega), if_neg e3, if_neg e12, if_neg eo, hr]
    · rw [if_neg (by omega), if_neg e]
      by_cases ej : j = t ∧ c = onx back
      · obtain ⟨rfl, rfl⟩ := ej
        rw [if_pos (by simp), if_neg (by omega), if_neg (by omega), hr, if_pos (by simp)]
        rfl
      · rw [if_neg (by omega), if_neg (by omega), if_neg (by omega), hr, if_neg (by rintro ⟨x, y⟩; simp only [Option.some.injEq] at y; exact ej ⟨y.symm, x⟩)]
  · simp only [oldWorld, cell_set]
    rw [if_neg (by omega), if_neg (by omega), if_neg (by omega), if_neg (by omega), if_neg (by omega)]
    exact h.ord
  · simp only [oldWorld, cell_set]
    rw [if_neg (by omega), if_neg (by omega), if_neg (by omega), if_neg (by omega), if_neg (by omega)]
    exact h.lock
  · simp only [oldWorld, cell_set]
    rw [if_neg (by omega), if_neg (by omega), if_neg (by omega), if_neg (by omega), if_neg (by omega)]
    exact h.fronts m hm'
  · simp only [oldWorld, cell_set]
    rw [if_neg (by omega), if_neg (by omega), if_neg (by omega), if_neg (by omega), if_neg (by omega)]
    exact h.left
  · simp only [oldWorld, cell_set]
    rw [if_neg (by omega), if_neg (by omega), if_neg (by omega), if_neg (by omega), if_neg (by omega)]
    exact h.bk
  · simp only [oldWorld, cell_set]
    rw [if_neg (by omega), if_neg (by omega), if_neg (by omega), if_neg (by omega), if_neg (by omega), head_more, h.heads m hm', if_neg]
    rintro ⟨rfl, x⟩
    rw [hp] at x
    cases x
  · simp only [oldWorld, cell_set]
    by_cases e : m = md i
    · subst e
      rw [if_pos (by simp), if_neg (by omega), if_neg (by omega), if_neg (by omega), if_neg (by omega), h.tails _ hm', prv_here]
      rfl
    · rw [if_neg (by omega), if_neg (by omega), if_neg (by omega), if_neg (by omega), if_neg (by omega), h.tails m hm', prv_step (fun x => e x.symm)]
  · rw [h.bit m hm']
    by_cases e : m = md i
    · subst e
      rw [prv_here, hp]; rfl
    · rw [prv_step (fun x => e x.symm)]
end Go.Proofs.Ybulkaqny

/-
  inlineReader: add, lineBreak. Own work on this program.
-/
import Derived.Test.YbulkaqxqRows
import Derived.WalkKit
import Derived.OwnWalk
namespace Go.Proofs.Ybulkaqxq
open Go Go.RowKit

theorem lt_of_cell {w : World} {b o : Nat} {u : Value} (h : w.cell? ⟨b, o, none⟩ = some u) : b < w.heap.size := World.block_lt_of_cell? w ⟨b, o, none⟩ h

theorem Yba.info26 : (Yba.prog.info? 26).map (fun i => (i.zero, i.size, i.bytes)) = some (some (.agg #[.string ByteArray.empty, .bool false]), 2, 24) := by kernel_rfl

/-- The reader at block R. -/
structure Rd (w : World) (R : Nat) (src : ByteArray) (pos : Int) (v : Value) : Prop where
  ty : ∃ cs, w.heap[R]? = some (.cells cs 32 (0, 0))
  c0 : w.cell? ⟨R, 0, none⟩ = some (.string src)
  c1 : w.cell? ⟨R, 1, none⟩ = some (.int .i64 pos)
  c3 : w.cell? ⟨R, 3, none⟩ = some v
  c4 : w.cell? ⟨R, 4, none⟩ = some (.slice none 0 0)
  c5 : w.cell? ⟨R, 5, none⟩ = some (.int .i64 (-1))
  c6 : w.cell? ⟨R, 6, none⟩ = some (.slice none 0 0)
  c7 : w.cell? ⟨R, 7, none⟩ = some (.int .i64 0)
  c9 : w.cell? ⟨R, 9, none⟩ = some (.bool false)

theorem Rd.frozen {w : World} {R : Nat} {src : ByteArray} {pos : Int} {v : Value} (h : Rd w R src pos v) (o : Nat) : w.frozen? ⟨R, o, none⟩ = false := by
  obtain ⟨cs, hc⟩ := h.ty
  simp [World.frozen?, hc]

theorem Rd.lt {w : World} {R : Nat} {src : ByteArray} {pos : Int} {v : Value} (h : Rd w R src pos v) : R < w.heap.size := lt_of_cell h.c0

theorem Rd.block {w w' : World} {R : Nat} {src : ByteArray} {pos : Int} {v : Value} (h : Rd w R src pos v) (e : w'.heap[R]? = w.heap[R]?) : Rd w' R src pos v := by
  have ce : ∀ o, w'.cell? ⟨R, o, none⟩ = w.cell? ⟨R, o, none⟩ := fun o => World.cell?_of_block (a := ⟨R, o, none⟩) e
  obtain ⟨cs, hc⟩ := h.ty
  exact ⟨⟨cs, e.trans hc⟩, (ce 0).trans h.c0, (ce 1).trans h.c1, (ce 3).trans h.c3, (ce 4).trans h.c4, (ce 5).trans h.c5, (ce 6).trans h.c6, (ce 7).trans h.c7, (ce 9).trans h.c9⟩

theorem ty_set {w : World} {R o : Nat} (u : Value) (h : ∃ cs, w.heap[R]? = some (.cells cs 32 (0, 0))) : ∃ cs, (w.setCell ⟨R, o, none⟩ u).heap[R]? = some (.cells cs 32 (0, 0)) := by
  obtain ⟨cs, hc⟩ := h
  simp [World.setCell, Array.getElem?_modify, hc]

theorem cell_off {w : World} {R o o' : Nat} {u x : Value} (h : w.cell? ⟨R, o', none⟩ = some x) (hne : o' ≠ o) : (w.setCell ⟨R, o, none⟩ u).cell? ⟨R, o', none⟩ = some x :=
  (World.cell?_setCell_other w ⟨R, o, none⟩ ⟨R, o', none⟩ u (by intro e; injection e with e1 e2; exact hne e2.symm)).trans h

theorem Rd.setPos {w : World} {R : Nat} {src : ByteArray} {pos : Int} {v : Value} (h : Rd w R src pos v) (p : Int) : Rd (w.setCell ⟨R, 1, none⟩ (.int .i64 p)) R src p v :=
  ⟨ty_set _ h.ty, cell_off h.c0 (by decide), World.cell?_setCell_same w _ _ h.c1, cell_off h.c3 (by decide), cell_off h.c4 (by decide), cell_off h.c5 (by decide), cell_off h.c6 (by decide), cell_off h.c7 (by decide), cell_off h.c9 (by decide)⟩

theorem Rd.setV {w : World} {R : Nat} {src : ByteArray} {pos : Int} {v : Value} (h : Rd w R src pos v) (u : Value) : Rd (w.setCell ⟨R, 3, none⟩ u) R src pos u :=
  ⟨ty_set _ h.ty, cell_off h.c0 (by decide), cell_off h.c1 (by decide), World.cell?_setCell_same w _ _ h.c3, cell_off h.c4 (by decide), cell_off h.c5 (by decide), cell_off h.c6 (by decide), cell_off h.c7 (by decide), cell_off h.c9 (by decide)⟩

theorem Rd.own_ne {w : World} {R base n : Nat} {src : ByteArray} {pos : Int} {v v' : Value} {xs : List Value} (h : Rd w R src pos v) (hown : w.ownsRow base 26 2 v' n xs) : v'.ownBlock ≠ some R := by
  intro e
  obtain ⟨cs, hc⟩ := h.ty
  rcases hown.2 with ⟨rfl, _⟩ | ⟨g, cap, cur, rfl, _, hg, _⟩
  · cases e
  · simp [Value.ownBlock] at e
    subst e
    rw [hc] at hg
    simp at hg

/-- inlineReader.add. -/
theorem add_any (R B base n : Nat) (src : ByteArray) (pos : Int) (v : Value) (xs : List Value) (s : ByteArray) (w : World) (h : Rd w R src pos v) (hown : w.ownsRow base 26 2 v n xs) (hn : n ≤ 1024) (hbase : base ≤ w.heap.size) (hB : B ≤ base) (hBR : B ≤ R) :
    Calls Yba.prog 17 #[.pointer (some ⟨R, 0, none⟩), .string s] w fun e w' => e = .returned (.tuple #[]) ∧ ∃ v', w'.ownsRow base 26 2 v' (n + 1) (xs ++ [.string s, .bool false]) ∧ Rd w' R src pos v' ∧ Below B w w' := by
  obtain ⟨i0, hi, hz0, hz1, hz2⟩ := info_parts Yba.info26
  have c3 := h.c3
  have z3 := h.frozen 3
  have hl := h.lt
  have HR : Hid (Rd w R src pos v) := h
  clear h
  go_enter Yba.func17, Yba.ntmps17
  go_wp2_with (at_builtin; refine wpList_append_own _ rfl _ _ 24 rfl base 26 i0 (.agg #[.string ByteArray.empty, .bool false]) 2 24 Yba.underlying24 hi hz0 hz1 hz2 rfl (by decide) _ _ _ rfl (hown.alloc _) ⟨w.heap.size, 0, none⟩ 1 1 [.string s, .bool false] rfl rfl ?c1 ?c2 ?c3 ?c4 ?c5 ?_)
  case c1 =>
    intro j u hj
    match j, hj with
    | 0, hj => simp at hj; subst hj; simp [Addr.add]
    | 1, hj => simp at hj; subst hj; simp [Addr.add]
  case c2 => intro u hu; simp at hu; rcases hu with rfl | rfl <;> rfl
  case c3 => unfold maxLen; omega
  case c4 => omega
  case c5 => simp; omega
  intro v' w1 hown' hgrow _
  obtain ⟨g, cap, hv'⟩ : ∃ g cap, v' = .slice (some ⟨g, 0, none⟩) (n + 1) cap := by
    rcases hown'.2 with ⟨_, h0⟩ | ⟨g, cap, cur, hv, _⟩
    · omega
    · exact ⟨g, cap, hv⟩
  subst hv'
  have hRA := HR.out.block (w' := w.alloc (.cells #[.string s, .bool false] 26)) (Below.heap_alloc _ _ _ hl)
  have hne := HR.out.own_ne hown
  have hR1 := hRA.block (hgrow.block R (by simp; omega) (fun e => hne e.symm))
  have c3 := hR1.c3
  have z3 := hR1.frozen 3
  have hl1 := hR1.lt
  have hbel : Below B w w1 := by
    have hlow := hown.lt
    refine Below.grown ((Below.refl B w).alloc (by omega) _) hgrow (by simp; omega) (fun k hk => ?_)
    have := hlow k hk
    omega
  have HF : Hid ((w1.setCell ⟨R, 3, none⟩ (.slice (some ⟨g, 0, none⟩) (n + 1) cap)).ownsRow base 26 2 (.slice (some ⟨g, 0, none⟩) (n + 1) cap) (n + 1) (xs ++ [.string s, .bool false]) ∧ Rd (w1.setCell ⟨R, 3, none⟩ (.slice (some ⟨g, 0, none⟩) (n + 1) cap)) R src pos (.slice (some ⟨g, 0, none⟩) (n + 1) cap) ∧ Below B w (w1.setCell ⟨R, 3, none⟩ (.slice (some ⟨g, 0, none⟩) (n + 1) cap))) :=
    ⟨ownsRow_setCell_other hown' (hR1.own_ne hown') _, hR1.setV (.slice (some ⟨g, 0, none⟩) (n + 1) cap), hbel.setCell hBR _⟩
  clear hown hown' hgrow hRA hne hR1 HR hbel
  go_wp2
  go_end0
  exact ⟨rfl, _, HF.out⟩

theorem lineBreak_any (R B base n : Nat) (src : ByteArray) (pos : Int) (v : Value) (xs : List Value) (w : World) (h : Rd w R src pos v) (hown : w.ownsRow base 26 2 v n xs) (hn : n ≤ 1024) (hbase : base ≤ w.heap.size) (hB : B ≤ base) (hBR : B ≤ R) (hp0 : 0 ≤ pos) (hp1 : pos ≤ 1024) :
    Calls Yba.prog 11 #[.pointer (some ⟨R, 0, none⟩)] w fun e w' => e = .returned (.tuple #[]) ∧ ∃ v', w'.ownsRow base 26 2 v' (n + 1) (xs ++ [.string ⟨#[10]⟩, .bool false]) ∧ Rd w' R src (pos + 1) v' ∧ Below B w w' := by
  have HA := add_any R B base n src pos v xs ⟨#[10]⟩ w h hown hn hbase hB hBR
  have hl := h.lt
  clear h hown
  go_enter Yba.func11, Yba.ntmps11
  go_wp2_with fail
  refine HA.mono ?_
  rintro e w1 ⟨rfl, v', hown, hR, hb⟩
  have c1 := hR.c1
  have z1 := hR.frozen 1
  have hl1 := hR.lt
  have HF : Hid ((w1.setCell ⟨R, 1, none⟩ (.int .i64 (pos + 1))).ownsRow base 26 2 v' (n + 1) (xs ++ [.string ⟨#[10]⟩, .bool false]) ∧ Rd (w1.setCell ⟨R, 1, none⟩ (.int .i64 (pos + 1))) R src (pos + 1) v' ∧ Below B w (w1.setCell ⟨R, 1, none⟩ (.int .i64 (pos + 1)))) :=
    ⟨ownsRow_setCell_other hown (hR.own_ne hown) _, hR.setPos _, hb.setCell hBR _⟩
  clear hown hR hb HA
  go_wp2_with fail
  go_end0
  exact ⟨rfl, _, HF.out⟩

/-- Whether a byte is a space or a tab. -/
def isSp (b : Int) : Bool := b == 32 || b == 9

theorem isSp_any (b : Int) (w : World) : Calls Yba.prog 12 #[.int .u8 b] w fun e w' => e = .returned (.bool (isSp b)) ∧ w' = w := by
  go_enter Yba.func12, Yba.ntmps12
  go_wp2_with fail
  · rename_i h
    go_ret
    simp [isSp, h]
  · go_ret
    simp [isSp]

theorem isSp2_any (b : Int) (w : World) : Calls Yba.prog 7 #[.int .u8 b] w fun e w' => e = .returned (.bool (isSp b)) ∧ w' = w := by
  go_enter Yba.func7, Yba.ntmps7
  go_wp2_with fail
  · rename_i h
    go_ret
    simp [isSp, h]
  · go_ret
    simp [isSp]

end Go.Proofs.Ybulkaqxq

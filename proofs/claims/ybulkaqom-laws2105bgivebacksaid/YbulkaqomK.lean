/-
  keyStates, one key at most.
-/
import Derived.Test.YbulkaqomM
import Derived.Test.YbulkaqomU
namespace Go.Proofs.Ybulkaqom
open Go.RowKit Go.ChangeMaps

theorem u39 : Yba.prog.underlying 39 = some (.map 9 2) := by kernel_rfl
theorem u42 : Yba.prog.underlying 42 = some (.map 9 46) := by kernel_rfl
theorem u49 : Yba.prog.underlying 49 = some (.map 9 56) := by kernel_rfl
theorem u9 : Yba.prog.underlying 9 = some .string := by kernel_rfl

/-- The map that block r is bears the key, or bears none. -/
def Has (w : World) (r : Nat) (v : Value) : Prop := ∃ b c, w.heap[r]? = some (.map (One v b) c)
def Emp (w : World) (r : Nat) : Prop := ∃ c, w.heap[r]? = some (.map #[] c)

def At (B o : Nat) : Nat → Nat → Prop := fun k j => k = B ∧ j = o
def Blk (r : Nat) : Nat → Nat → Prop := fun k _ => k = r

theorem push_at {h : Array Obj} {n : Nat} (e : h.size = n) (o : Obj) : (h.push o)[n]? = some o := by
  subst e
  exact Array.getElem?_push_size

/-- Behind the making of a map in a field. -/
theorem first_map {w : World} {B o : Nat} {u : Value} (hc : w.cell? ⟨B, o, none⟩ = some u) :
    ((w.setCell ⟨B, o, none⟩ (.map (some w.heap.size))).alloc (.map #[] 0)).heap[w.heap.size]? = some (.map #[] 0) ∧
    ((w.setCell ⟨B, o, none⟩ (.map (some w.heap.size))).alloc (.map #[] 0)).cell? ⟨B, o, none⟩ = some (.map (some w.heap.size)) ∧
    Kept (At B o) w ((w.setCell ⟨B, o, none⟩ (.map (some w.heap.size))).alloc (.map #[] 0)) := by
  have hlt : B < w.heap.size := lt_of_cell hc
  have hs : (w.setCell ⟨B, o, none⟩ (.map (some w.heap.size))).heap.size = w.heap.size := by simp [World.setCell]
  refine ⟨?_, ?_, ((Kept.refl (At B o) w).setCell (.inl ⟨rfl, rfl⟩) _).alloc _⟩
  · exact push_at hs _
  · exact (World.cell?_of_block (w := (w.setCell ⟨B, o, none⟩ (.map (some w.heap.size)))) (Below.heap_alloc _ _ _ (by rw [hs]; exact hlt))).trans (cell_set_same hc)

/-- The same, behind a box. -/
theorem first_map2 {w : World} {B o : Nat} {u : Value} (hc : w.cell? ⟨B, o, none⟩ = some u) (bx : Obj) :
    (((w.setCell ⟨B, o, none⟩ (.map (some (w.heap.size + 1)))).alloc bx).alloc (.map #[] 0)).heap[w.heap.size + 1]? = some (.map #[] 0) ∧
    (((w.setCell ⟨B, o, none⟩ (.map (some (w.heap.size + 1)))).alloc bx).alloc (.map #[] 0)).cell? ⟨B, o, none⟩ = some (.map (some (w.heap.size + 1))) ∧
    Kept (At B o) w (((w.setCell ⟨B, o, none⟩ (.map (some (w.heap.size + 1)))).alloc bx).alloc (.map #[] 0)) := by
  have hlt : B < w.heap.size := lt_of_cell hc
  have hs : (w.setCell ⟨B, o, none⟩ (.map (some (w.heap.size + 1)))).heap.size = w.heap.size := by simp [World.setCell]
  have hs2 : ((w.setCell ⟨B, o, none⟩ (.map (some (w.heap.size + 1)))).alloc bx).heap.size = w.heap.size + 1 := by rw [show ∀ x : World, (x.alloc bx).heap.size = x.heap.size + 1 from fun x => by simp, hs]
  refine ⟨?_, ?_, (((Kept.refl (At B o) w).setCell (.inl ⟨rfl, rfl⟩) _).alloc _).alloc _⟩
  · exact push_at hs2 _
  · refine (World.cell?_of_block (w := ((w.setCell ⟨B, o, none⟩ (.map (some (w.heap.size + 1)))).alloc bx)) (Below.heap_alloc _ _ _ (by rw [hs2]; show B < _; omega))).trans ?_
    exact (World.cell?_of_block (w := (w.setCell ⟨B, o, none⟩ (.map (some (w.heap.size + 1))))) (Below.heap_alloc _ _ _ (by rw [hs]; exact hlt))).trans (cell_set_same hc)

/-- The first store into it. -/
theorem first_made {w0 w : World} {B o r : Nat} (v : Value) (hB : B < r) (hr : w0.heap.size ≤ r) (h : w.heap[r]? = some (.map #[] 0) ∧ w.cell? ⟨B, o, none⟩ = some (.map (some r)) ∧ Kept (At B o) w0 w) :
    Has (setBlock w r (.map (One v 0) 1)) r v ∧ (setBlock w r (.map (One v 0) 1)).cell? ⟨B, o, none⟩ = some (.map (some r)) ∧ Kept (At B o) w0 (setBlock w r (.map (One v 0) 1)) :=
  ⟨⟨0, 1, heap_setBlock_same h.1 _⟩, (cell_setBlock h.1 (by omega)).trans h.2.1, h.2.2.setBlock h.1 (.inr hr)⟩

theorem again_map {w w0 : World} {r b c : Nat} {u : Value} (hm : w.heap[r]? = some (.map (One u b) c)) (v : Value) (hw : Below w0.heap.size w0 w) :
    Has (setBlock w r (.map (One v b) c)) r v ∧ Kept (Blk r) w0 (setBlock w r (.map (One v b) c)) := by
  refine ⟨⟨b, c, heap_setBlock_same hm _⟩, ?_⟩
  have hk : Kept (Blk r) w0 w := Kept.of_below hw
  exact hk.setBlock hm (.inl fun _ => rfl)

theorem gone_map {w w0 : World} {r b c : Nat} {u : Value} (hm : w.heap[r]? = some (.map (One u b) c)) (hw : Below w0.heap.size w0 w) :
    Emp (setBlock w r (.map #[] c)) r ∧ Kept (Blk r) w0 (setBlock w r (.map #[] c)) := by
  refine ⟨⟨c, heap_setBlock_same hm _⟩, ?_⟩
  have hk : Kept (Blk r) w0 w := Kept.of_below hw
  exact hk.setBlock hm (.inl fun _ => rfl)

set_option maxRecDepth 100000 in
set_option maxHeartbeats 400000 in
theorem keepI_first_newer (B : Nat) (v : Int) (w : World) (c0 : w.cell? ⟨B, 5, none⟩ = some (.map none)) (z0 : w.frozen? ⟨B, 5, none⟩ = false) :
    Calls Yba.prog 15 #[.pointer (some ⟨B, 5, none⟩), .string kk, .int .i64 v, .bool false] w fun e w' => e = .returned (.tuple #[]) ∧ ∃ r, w.heap.size ≤ r ∧ Has w' r (.int .i64 v) ∧ w'.cell? ⟨B, 5, none⟩ = some (.map (some r)) ∧ Kept (At B 5) w w' := by
  have hlt := lt_of_cell c0
  have hnil : ∀ w, (Go.binOp .eql 39 (.map none) (.map none)).run Yba.prog w = .ok (.bool true) w := fun w => run_eql_map_nil w 39 9 2 none u39
  have hmk : ∀ w, (Instr.makeMap 39 none).run Yba.prog w = .ok (.map (some w.heap.size)) (w.alloc (.map #[] 0)) := fun w => run_makeMap_plain w 39
  have hm1 := first_map c0
  have HF := first_made (w0 := w) (r := w.heap.size) (.int .i64 v) (by have : B < w.heap.size := hlt; omega) (by omega) hm1
  have hup : (Instr.mapUpdate 39 (.map (some w.heap.size)) (.string kk) (.int .i64 v)).run Yba.prog ((w.setCell ⟨B, 5, none⟩ (.map (some w.heap.size))).alloc (.map #[] 0)).drew = .ok () (setBlock ((w.setCell ⟨B, 5, none⟩ (.map (some w.heap.size))).alloc (.map #[] 0)) w.heap.size (.map (One (.int .i64 v) 0) 1)).drew := update_first (w := World.drew _) u39 u9 _ hm1.1
  have hup0 : (Instr.mapUpdate 39 (.map (some w.heap.size)) (.string kk) (.int .i64 v)).run Yba.prog ((w.setCell ⟨B, 5, none⟩ (.map (some w.heap.size))).alloc (.map #[] 0)) = .ok () (setBlock ((w.setCell ⟨B, 5, none⟩ (.map (some w.heap.size))).alloc (.map #[] 0)) w.heap.size (.map (One (.int .i64 v) 0) 1)) := update_first u39 u9 _ hm1.1
  clear hm1
  generalize setBlock ((w.setCell ⟨B, 5, none⟩ (.map (some w.heap.size))).alloc (.map #[] 0)) w.heap.size (.map (One (.int .i64 v) 0) 1) = wf at *
  go_enter Yba.func15, Yba.ntmps15
  go_wp2_with fail
  go_end0
  exact ⟨rfl, _, Nat.le_refl _, HF⟩

set_option maxRecDepth 100000 in
set_option maxHeartbeats 400000 in
theorem keepI_again_newer (B r : Nat) (v : Int) (u : Value) (w : World) (c0 : w.cell? ⟨B, 5, none⟩ = some (.map (some r))) (hm0 : Has w r u) :
    Calls Yba.prog 15 #[.pointer (some ⟨B, 5, none⟩), .string kk, .int .i64 v, .bool false] w fun e w' => e = .returned (.tuple #[]) ∧ Has w' r (.int .i64 v) ∧ Kept (Blk r) w w' := by
  have hlt := lt_of_cell c0
  obtain ⟨b, c, hm⟩ := hm0
  have hnil : ∀ w, (Go.binOp .eql 39 (.map (some r)) (.map none)).run Yba.prog w = .ok (.bool false) w := fun w => run_eql_map_nil w 39 9 2 (some r) u39
  have HF := again_map hm (.int .i64 v) (Below.refl w.heap.size w)
  have hup : (Instr.mapUpdate 39 (.map (some r)) (.string kk) (.int .i64 v)).run Yba.prog w = .ok () (setBlock w r (.map (One (.int .i64 v) b) c)) := update_one u39 u9 _ hm
  clear hm
  generalize setBlock w r (.map (One (.int .i64 v) b) c) = wf at *
  go_enter Yba.func15, Yba.ntmps15
  go_wp2_with fail
  go_end0
  exact ⟨rfl, HF⟩

set_option maxRecDepth 100000 in
set_option maxHeartbeats 400000 in
theorem keepI_first_older (B : Nat) (v : Int) (w : World) (c0 : w.cell? ⟨B, 6, none⟩ = some (.map none)) (z0 : w.frozen? ⟨B, 6, none⟩ = false) :
    Calls Yba.prog 15 #[.pointer (some ⟨B, 5, none⟩), .string kk, .int .i64 v, .bool true] w fun e w' => e = .returned (.tuple #[]) ∧ ∃ r, w.heap.size ≤ r ∧ Has w' r (.int .i64 v) ∧ w'.cell? ⟨B, 6, none⟩ = some (.map (some r)) ∧ Kept (At B 6) w w' := by
  have hlt := lt_of_cell c0
  have hnil : ∀ w, (Go.binOp .eql 39 (.map none) (.map none)).run Yba.prog w = .ok (.bool true) w := fun w => run_eql_map_nil w 39 9 2 none u39
  have hmk : ∀ w, (Instr.makeMap 39 none).run Yba.prog w = .ok (.map (some w.heap.size)) (w.alloc (.map #[] 0)) := fun w => run_makeMap_plain w 39
  have hm1 := first_map c0
  have HF := first_made (w0 := w) (r := w.heap.size) (.int .i64 v) (by have : B < w.heap.size := hlt; omega) (by omega) hm1
  have hup : (Instr.mapUpdate 39 (.map (some w.heap.size)) (.string kk) (.int .i64 v)).run Yba.prog ((w.setCell ⟨B, 6, none⟩ (.map (some w.heap.size))).alloc (.map #[] 0)).drew = .ok () (setBlock ((w.setCell ⟨B, 6, none⟩ (.map (some w.heap.size))).alloc (.map #[] 0)) w.heap.size (.map (One (.int .i64 v) 0) 1)).drew := update_first (w := World.drew _) u39 u9 _ hm1.1
  have hup0 : (Instr.mapUpdate 39 (.map (some w.heap.size)) (.string kk) (.int .i64 v)).run Yba.prog ((w.setCell ⟨B, 6, none⟩ (.map (some w.heap.size))).alloc (.map #[] 0)) = .ok () (setBlock ((w.setCell ⟨B, 6, none⟩ (.map (some w.heap.size))).alloc (.map #[] 0)) w.heap.size (.map (One (.int .i64 v) 0) 1)) := update_first u39 u9 _ hm1.1
  clear hm1
  generalize setBlock ((w.setCell ⟨B, 6, none⟩ (.map (some w.heap.size))).alloc (.map #[] 0)) w.heap.size (.map (One (.int .i64 v) 0) 1) = wf at *
  go_enter Yba.func15, Yba.ntmps15
  go_wp2_with fail
  go_end0
  exact ⟨rfl, _, Nat.le_refl _, HF⟩

set_option maxRecDepth 100000 in
set_option maxHeartbeats 400000 in
theorem keepI_again_older (B r : Nat) (v : Int) (u : Value) (w : World) (c0 : w.cell? ⟨B, 6, none⟩ = some (.map (some r))) (hm0 : Has w r u) :
    Calls Yba.prog 15 #[.pointer (some ⟨B, 5, none⟩), .string kk, .int .i64 v, .bool true] w fun e w' => e = .returned (.tuple #[]) ∧ Has w' r (.int .i64 v) ∧ Kept (Blk r) w w' := by
  have hlt := lt_of_cell c0
  obtain ⟨b, c, hm⟩ := hm0
  have hnil : ∀ w, (Go.binOp .eql 39 (.map (some r)) (.map none)).run Yba.prog w = .ok (.bool false) w := fun w => run_eql_map_nil w 39 9 2 (some r) u39
  have HF := again_map hm (.int .i64 v) (Below.refl w.heap.size w)
  have hup : (Instr.mapUpdate 39 (.map (some r)) (.string kk) (.int .i64 v)).run Yba.prog w = .ok () (setBlock w r (.map (One (.int .i64 v) b) c)) := update_one u39 u9 _ hm
  clear hm
  generalize setBlock w r (.map (One (.int .i64 v) b) c) = wf at *
  go_enter Yba.func15, Yba.ntmps15
  go_wp2_with fail
  go_end0
  exact ⟨rfl, HF⟩

set_option maxRecDepth 100000 in
set_option maxHeartbeats 400000 in
theorem renewI_first_newer (B : Nat) (v : Int) (w : World) (c0 : w.cell? ⟨B, 5, none⟩ = some (.map none)) (z0 : w.frozen? ⟨B, 5, none⟩ = false) :
    Calls Yba.prog 55 #[.pointer (some ⟨B, 5, none⟩), .string kk, .int .i64 v, .bool false] w fun e w' => e = .returned (.tuple #[]) ∧ ∃ r, w.heap.size ≤ r ∧ Has w' r (.int .i64 v) ∧ w'.cell? ⟨B, 5, none⟩ = some (.map (some r)) ∧ Kept (At B 5) w w' := by
  have hlt := lt_of_cell c0
  have hnil : ∀ w, (Go.binOp .eql 39 (.map none) (.map none)).run Yba.prog w = .ok (.bool true) w := fun w => run_eql_map_nil w 39 9 2 none u39
  have hmk : ∀ w, (Instr.makeMap 39 none).run Yba.prog w = .ok (.map (some w.heap.size)) (w.alloc (.map #[] 0)) := fun w => run_makeMap_plain w 39
  have hm1 := first_map c0
  have HF := first_made (w0 := w) (r := w.heap.size) (.int .i64 v) (by have : B < w.heap.size := hlt; omega) (by omega) hm1
  have hup : (Instr.mapUpdate 39 (.map (some w.heap.size)) (.string kk) (.int .i64 v)).run Yba.prog ((w.setCell ⟨B, 5, none⟩ (.map (some w.heap.size))).alloc (.map #[] 0)).drew = .ok () (setBlock ((w.setCell ⟨B, 5, none⟩ (.map (some w.heap.size))).alloc (.map #[] 0)) w.heap.size (.map (One (.int .i64 v) 0) 1)).drew := update_first (w := World.drew _) u39 u9 _ hm1.1
  have hup0 : (Instr.mapUpdate 39 (.map (some w.heap.size)) (.string kk) (.int .i64 v)).run Yba.prog ((w.setCell ⟨B, 5, none⟩ (.map (some w.heap.size))).alloc (.map #[] 0)) = .ok () (setBlock ((w.setCell ⟨B, 5, none⟩ (.map (some w.heap.size))).alloc (.map #[] 0)) w.heap.size (.map (One (.int .i64 v) 0) 1)) := update_first u39 u9 _ hm1.1
  clear hm1
  generalize setBlock ((w.setCell ⟨B, 5, none⟩ (.map (some w.heap.size))).alloc (.map #[] 0)) w.heap.size (.map (One (.int .i64 v) 0) 1) = wf at *
  go_enter Yba.func55, Yba.ntmps55
  go_wp2_with fail
  go_end0
  exact ⟨rfl, _, Nat.le_refl _, HF⟩

set_option maxRecDepth 100000 in
set_option maxHeartbeats 400000 in
theorem renewI_again_newer (B r : Nat) (v : Int) (u : Value) (w : World) (c0 : w.cell? ⟨B, 5, none⟩ = some (.map (some r))) (hm0 : Has w r u) :
    Calls Yba.prog 55 #[.pointer (some ⟨B, 5, none⟩), .string kk, .int .i64 v, .bool false] w fun e w' => e = .returned (.tuple #[]) ∧ Has w' r (.int .i64 v) ∧ Kept (Blk r) w w' := by
  have hlt := lt_of_cell c0
  obtain ⟨b, c, hm⟩ := hm0
  have hnil : ∀ w, (Go.binOp .eql 39 (.map (some r)) (.map none)).run Yba.prog w = .ok (.bool false) w := fun w => run_eql_map_nil w 39 9 2 (some r) u39
  have HF := again_map hm (.int .i64 v) (Below.refl w.heap.size w)
  have hup : (Instr.mapUpdate 39 (.map (some r)) (.string kk) (.int .i64 v)).run Yba.prog w = .ok () (setBlock w r (.map (One (.int .i64 v) b) c)) := update_one u39 u9 _ hm
  clear hm
  generalize setBlock w r (.map (One (.int .i64 v) b) c) = wf at *
  go_enter Yba.func55, Yba.ntmps55
  go_wp2_with fail
  go_end0
  exact ⟨rfl, HF⟩

set_option maxRecDepth 100000 in
set_option maxHeartbeats 400000 in
theorem keepH_first_newer (B : Nat) (v : Value) (w : World) (c0 : w.cell? ⟨B, 17, none⟩ = some (.map none)) (z0 : w.frozen? ⟨B, 17, none⟩ = false) :
    Calls Yba.prog 16 #[.pointer (some ⟨B, 17, none⟩), .string kk, v, .bool false] w fun e w' => e = .returned (.tuple #[]) ∧ ∃ r, w.heap.size ≤ r ∧ Has w' r (v) ∧ w'.cell? ⟨B, 17, none⟩ = some (.map (some r)) ∧ Kept (At B 17) w w' := by
  have hlt := lt_of_cell c0
  have hnil : ∀ w, (Go.binOp .eql 49 (.map none) (.map none)).run Yba.prog w = .ok (.bool true) w := fun w => run_eql_map_nil w 49 9 56 none u49
  have hmk : ∀ w, (Instr.makeMap 49 none).run Yba.prog w = .ok (.map (some w.heap.size)) (w.alloc (.map #[] 0)) := fun w => run_makeMap_plain w 49
  have hm1 := first_map c0
  have HF := first_made (w0 := w) (r := w.heap.size) (v) (by have : B < w.heap.size := hlt; omega) (by omega) hm1
  have hup : (Instr.mapUpdate 49 (.map (some w.heap.size)) (.string kk) (v)).run Yba.prog ((w.setCell ⟨B, 17, none⟩ (.map (some w.heap.size))).alloc (.map #[] 0)).drew = .ok () (setBlock ((w.setCell ⟨B, 17, none⟩ (.map (some w.heap.size))).alloc (.map #[] 0)) w.heap.size (.map (One (v) 0) 1)).drew := update_first (w := World.drew _) u49 u9 _ hm1.1
  have hup0 : (Instr.mapUpdate 49 (.map (some w.heap.size)) (.string kk) (v)).run Yba.prog ((w.setCell ⟨B, 17, none⟩ (.map (some w.heap.size))).alloc (.map #[] 0)) = .ok () (setBlock ((w.setCell ⟨B, 17, none⟩ (.map (some w.heap.size))).alloc (.map #[] 0)) w.heap.size (.map (One (v) 0) 1)) := update_first u49 u9 _ hm1.1
  clear hm1
  generalize setBlock ((w.setCell ⟨B, 17, none⟩ (.map (some w.heap.size))).alloc (.map #[] 0)) w.heap.size (.map (One (v) 0) 1) = wf at *
  go_enter Yba.func16, Yba.ntmps16
  go_wp2_with fail
  go_end0
  exact ⟨rfl, _, Nat.le_refl _, HF⟩

set_option maxRecDepth 100000 in
set_option maxHeartbeats 400000 in
theorem keepH_first_older (B : Nat) (v : Value) (w : World) (c0 : w.cell? ⟨B, 18, none⟩ = some (.map none)) (z0 : w.frozen? ⟨B, 18, none⟩ = false) :
    Calls Yba.prog 16 #[.pointer (some ⟨B, 17, none⟩), .string kk, v, .bool true] w fun e w' => e = .returned (.tuple #[]) ∧ ∃ r, w.heap.size ≤ r ∧ Has w' r (v) ∧ w'.cell? ⟨B, 18, none⟩ = some (.map (some r)) ∧ Kept (At B 18) w w' := by
  have hlt := lt_of_cell c0
  have hnil : ∀ w, (Go.binOp .eql 49 (.map none) (.map none)).run Yba.prog w = .ok (.bool true) w := fun w => run_eql_map_nil w 49 9 56 none u49
  have hmk : ∀ w, (Instr.makeMap 49 none).run Yba.prog w = .ok (.map (some w.heap.size)) (w.alloc (.map #[] 0)) := fun w => run_makeMap_plain w 49
  have hm1 := first_map c0
  have HF := first_made (w0 := w) (r := w.heap.size) (v) (by have : B < w.heap.size := hlt; omega) (by omega) hm1
  have hup : (Instr.mapUpdate 49 (.map (some w.heap.size)) (.string kk) (v)).run Yba.prog ((w.setCell ⟨B, 18, none⟩ (.map (some w.heap.size))).alloc (.map #[] 0)).drew = .ok () (setBlock ((w.setCell ⟨B, 18, none⟩ (.map (some w.heap.size))).alloc (.map #[] 0)) w.heap.size (.map (One (v) 0) 1)).drew := update_first (w := World.drew _) u49 u9 _ hm1.1
  have hup0 : (Instr.mapUpdate 49 (.map (some w.heap.size)) (.string kk) (v)).run Yba.prog ((w.setCell ⟨B, 18, none⟩ (.map (some w.heap.size))).alloc (.map #[] 0)) = .ok () (setBlock ((w.setCell ⟨B, 18, none⟩ (.map (some w.heap.size))).alloc (.map #[] 0)) w.heap.size (.map (One (v) 0) 1)) := update_first u49 u9 _ hm1.1
  clear hm1
  generalize setBlock ((w.setCell ⟨B, 18, none⟩ (.map (some w.heap.size))).alloc (.map #[] 0)) w.heap.size (.map (One (v) 0) 1) = wf at *
  go_enter Yba.func16, Yba.ntmps16
  go_wp2_with fail
  go_end0
  exact ⟨rfl, _, Nat.le_refl _, HF⟩

set_option maxRecDepth 100000 in
set_option maxHeartbeats 400000 in
theorem renewH_first_newer (B : Nat) (v : Value) (w : World) (c0 : w.cell? ⟨B, 17, none⟩ = some (.map none)) (z0 : w.frozen? ⟨B, 17, none⟩ = false) :
    Calls Yba.prog 47 #[.pointer (some ⟨B, 17, none⟩), .string kk, v, .bool false] w fun e w' => e = .returned (.tuple #[]) ∧ ∃ r, w.heap.size ≤ r ∧ Has w' r (v) ∧ w'.cell? ⟨B, 17, none⟩ = some (.map (some r)) ∧ Kept (At B 17) w w' := by
  have hlt := lt_of_cell c0
  have hnil : ∀ w, (Go.binOp .eql 49 (.map none) (.map none)).run Yba.prog w = .ok (.bool true) w := fun w => run_eql_map_nil w 49 9 56 none u49
  have hmk : ∀ w, (Instr.makeMap 49 none).run Yba.prog w = .ok (.map (some w.heap.size)) (w.alloc (.map #[] 0)) := fun w => run_makeMap_plain w 49
  have hm1 := first_map c0
  have HF := first_made (w0 := w) (r := w.heap.size) (v) (by have : B < w.heap.size := hlt; omega) (by omega) hm1
  have hup : (Instr.mapUpdate 49 (.map (some w.heap.size)) (.string kk) (v)).run Yba.prog ((w.setCell ⟨B, 17, none⟩ (.map (some w.heap.size))).alloc (.map #[] 0)).drew = .ok () (setBlock ((w.setCell ⟨B, 17, none⟩ (.map (some w.heap.size))).alloc (.map #[] 0)) w.heap.size (.map (One (v) 0) 1)).drew := update_first (w := World.drew _) u49 u9 _ hm1.1
  have hup0 : (Instr.mapUpdate 49 (.map (some w.heap.size)) (.string kk) (v)).run Yba.prog ((w.setCell ⟨B, 17, none⟩ (.map (some w.heap.size))).alloc (.map #[] 0)) = .ok () (setBlock ((w.setCell ⟨B, 17, none⟩ (.map (some w.heap.size))).alloc (.map #[] 0)) w.heap.size (.map (One (v) 0) 1)) := update_first u49 u9 _ hm1.1
  clear hm1
  generalize setBlock ((w.setCell ⟨B, 17, none⟩ (.map (some w.heap.size))).alloc (.map #[] 0)) w.heap.size (.map (One (v) 0) 1) = wf at *
  go_enter Yba.func47, Yba.ntmps47
  go_wp2_with fail
  go_end0
  exact ⟨rfl, _, Nat.le_refl _, HF⟩

set_option maxRecDepth 100000 in
set_option maxHeartbeats 400000 in
theorem keepU_first_newer (B : Nat) (xh xl : Int) (w : World) (c0 : w.cell? ⟨B, 7, none⟩ = some (.map none)) (z0 : w.frozen? ⟨B, 7, none⟩ = false) :
    Calls Yba.prog 14 #[.pointer (some ⟨B, 7, none⟩), .string kk, .agg #[.int .u64 xh, .int .u64 xl], .bool false] w fun e w' => e = .returned (.tuple #[]) ∧ ∃ r, w.heap.size ≤ r ∧ Has w' r (.agg #[.int .u64 xh, .int .u64 xl]) ∧ w'.cell? ⟨B, 7, none⟩ = some (.map (some r)) ∧ Kept (At B 7) w w' := by
  have hlt := lt_of_cell c0
  have hnil : ∀ w, (Go.binOp .eql 42 (.map none) (.map none)).run Yba.prog w = .ok (.bool true) w := fun w => run_eql_map_nil w 42 9 46 none u42
  have hmk : ∀ w, (Instr.makeMap 42 none).run Yba.prog w = .ok (.map (some w.heap.size)) (w.alloc (.map #[] 0)) := fun w => run_makeMap_plain w 42
  have hm1 := first_map2 c0 (.cells #[.int .u64 xh, .int .u64 xl] 46)
  have HF := first_made (w0 := w) (r := (w.heap.size + 1)) (.agg #[.int .u64 xh, .int .u64 xl]) (by have : B < w.heap.size := hlt; omega) (by omega) hm1
  have hup : (Instr.mapUpdate 42 (.map (some (w.heap.size + 1))) (.string kk) (.agg #[.int .u64 xh, .int .u64 xl])).run Yba.prog (((w.setCell ⟨B, 7, none⟩ (.map (some (w.heap.size + 1)))).alloc (.cells #[.int .u64 xh, .int .u64 xl] 46)).alloc (.map #[] 0)).drew = .ok () (setBlock (((w.setCell ⟨B, 7, none⟩ (.map (some (w.heap.size + 1)))).alloc (.cells #[.int .u64 xh, .int .u64 xl] 46)).alloc (.map #[] 0)) (w.heap.size + 1) (.map (One (.agg #[.int .u64 xh, .int .u64 xl]) 0) 1)).drew := update_first (w := World.drew _) u42 u9 _ hm1.1
  have hup0 : (Instr.mapUpdate 42 (.map (some (w.heap.size + 1))) (.string kk) (.agg #[.int .u64 xh, .int .u64 xl])).run Yba.prog (((w.setCell ⟨B, 7, none⟩ (.map (some (w.heap.size + 1)))).alloc (.cells #[.int .u64 xh, .int .u64 xl] 46)).alloc (.map #[] 0)) = .ok () (setBlock (((w.setCell ⟨B, 7, none⟩ (.map (some (w.heap.size + 1)))).alloc (.cells #[.int .u64 xh, .int .u64 xl] 46)).alloc (.map #[] 0)) (w.heap.size + 1) (.map (One (.agg #[.int .u64 xh, .int .u64 xl]) 0) 1)) := update_first u42 u9 _ hm1.1
  clear hm1
  generalize setBlock (((w.setCell ⟨B, 7, none⟩ (.map (some (w.heap.size + 1)))).alloc (.cells #[.int .u64 xh, .int .u64 xl] 46)).alloc (.map #[] 0)) (w.heap.size + 1) (.map (One (.agg #[.int .u64 xh, .int .u64 xl]) 0) 1) = wf at *
  go_enter Yba.func14, Yba.ntmps14
  go_wp2_with fail
  go_region
  go_end0
  exact ⟨rfl, _, by omega, HF.1, HF.2.1, HF.2.2.drew⟩

set_option maxRecDepth 100000 in
set_option maxHeartbeats 400000 in
theorem keepU_again_newer (B r : Nat) (xh xl : Int) (u : Value) (w : World) (c0 : w.cell? ⟨B, 7, none⟩ = some (.map (some r))) (hm0 : Has w r u) :
    Calls Yba.prog 14 #[.pointer (some ⟨B, 7, none⟩), .string kk, .agg #[.int .u64 xh, .int .u64 xl], .bool false] w fun e w' => e = .returned (.tuple #[]) ∧ Has w' r (.agg #[.int .u64 xh, .int .u64 xl]) ∧ Kept (Blk r) w w' := by
  have hlt := lt_of_cell c0
  obtain ⟨b, c, hm⟩ := hm0
  have hnil : ∀ w, (Go.binOp .eql 42 (.map (some r)) (.map none)).run Yba.prog w = .ok (.bool false) w := fun w => run_eql_map_nil w 42 9 46 (some r) u42
  have hrl : r < w.heap.size := by rcases Nat.lt_or_ge r w.heap.size with h | h; exact h; rw [Array.getElem?_eq_none h] at hm; cases hm
  have hma : (w.alloc (.cells #[.int .u64 xh, .int .u64 xl] 46)).heap[r]? = some (.map (One u b) c) := (Below.heap_alloc _ _ _ hrl).trans hm
  have hbw : Below w.heap.size w (w.alloc (.cells #[.int .u64 xh, .int .u64 xl] 46)) := (Below.refl w.heap.size w).alloc (Nat.le_refl _) _
  have HF := again_map hma (.agg #[.int .u64 xh, .int .u64 xl]) hbw
  have hup : (Instr.mapUpdate 42 (.map (some r)) (.string kk) (.agg #[.int .u64 xh, .int .u64 xl])).run Yba.prog (w.alloc (.cells #[.int .u64 xh, .int .u64 xl] 46)).drew = .ok () (setBlock (w.alloc (.cells #[.int .u64 xh, .int .u64 xl] 46)) r (.map (One (.agg #[.int .u64 xh, .int .u64 xl]) b) c)).drew := update_one (w := World.drew _) u42 u9 _ hma
  clear hm hma hbw
  generalize setBlock (w.alloc (.cells #[.int .u64 xh, .int .u64 xl] 46)) r (.map (One (.agg #[.int .u64 xh, .int .u64 xl]) b) c) = wf at *
  go_enter Yba.func14, Yba.ntmps14
  go_wp2_with fail
  go_region
  go_end0
  exact ⟨rfl, HF.1, HF.2.drew⟩

set_option maxRecDepth 100000 in
set_option maxHeartbeats 400000 in
theorem keepU_first_older (B : Nat) (xh xl : Int) (w : World) (c0 : w.cell? ⟨B, 8, none⟩ = some (.map none)) (z0 : w.frozen? ⟨B, 8, none⟩ = false) :
    Calls Yba.prog 14 #[.pointer (some ⟨B, 7, none⟩), .string kk, .agg #[.int .u64 xh, .int .u64 xl], .bool true] w fun e w' => e = .returned (.tuple #[]) ∧ ∃ r, w.heap.size ≤ r ∧ Has w' r (.agg #[.int .u64 xh, .int .u64 xl]) ∧ w'.cell? ⟨B, 8, none⟩ = some (.map (some r)) ∧ Kept (At B 8) w w' := by
  have hlt := lt_of_cell c0
  have hnil : ∀ w, (Go.binOp .eql 42 (.map none) (.map none)).run Yba.prog w = .ok (.bool true) w := fun w => run_eql_map_nil w 42 9 46 none u42
  have hmk : ∀ w, (Instr.makeMap 42 none).run Yba.prog w = .ok (.map (some w.heap.size)) (w.alloc (.map #[] 0)) := fun w => run_makeMap_plain w 42
  have hm1 := first_map2 c0 (.cells #[.int .u64 xh, .int .u64 xl] 46)
  have HF := first_made (w0 := w) (r := (w.heap.size + 1)) (.agg #[.int .u64 xh, .int .u64 xl]) (by have : B < w.heap.size := hlt; omega) (by omega) hm1
  have hup : (Instr.mapUpdate 42 (.map (some (w.heap.size + 1))) (.string kk) (.agg #[.int .u64 xh, .int .u64 xl])).run Yba.prog (((w.setCell ⟨B, 8, none⟩ (.map (some (w.heap.size + 1)))).alloc (.cells #[.int .u64 xh, .int .u64 xl] 46)).alloc (.map #[] 0)).drew = .ok () (setBlock (((w.setCell ⟨B, 8, none⟩ (.map (some (w.heap.size + 1)))).alloc (.cells #[.int .u64 xh, .int .u64 xl] 46)).alloc (.map #[] 0)) (w.heap.size + 1) (.map (One (.agg #[.int .u64 xh, .int .u64 xl]) 0) 1)).drew := update_first (w := World.drew _) u42 u9 _ hm1.1
  have hup0 : (Instr.mapUpdate 42 (.map (some (w.heap.size + 1))) (.string kk) (.agg #[.int .u64 xh, .int .u64 xl])).run Yba.prog (((w.setCell ⟨B, 8, none⟩ (.map (some (w.heap.size + 1)))).alloc (.cells #[.int .u64 xh, .int .u64 xl] 46)).alloc (.map #[] 0)) = .ok () (setBlock (((w.setCell ⟨B, 8, none⟩ (.map (some (w.heap.size + 1)))).alloc (.cells #[.int .u64 xh, .int .u64 xl] 46)).alloc (.map #[] 0)) (w.heap.size + 1) (.map (One (.agg #[.int .u64 xh, .int .u64 xl]) 0) 1)) := update_first u42 u9 _ hm1.1
  clear hm1
  generalize setBlock (((w.setCell ⟨B, 8, none⟩ (.map (some (w.heap.size + 1)))).alloc (.cells #[.int .u64 xh, .int .u64 xl] 46)).alloc (.map #[] 0)) (w.heap.size + 1) (.map (One (.agg #[.int .u64 xh, .int .u64 xl]) 0) 1) = wf at *
  go_enter Yba.func14, Yba.ntmps14
  go_wp2_with fail
  go_region
  go_end0
  exact ⟨rfl, _, by omega, HF.1, HF.2.1, HF.2.2.drew⟩

set_option maxRecDepth 100000 in
set_option maxHeartbeats 400000 in
theorem keepU_again_older (B r : Nat) (xh xl : Int) (u : Value) (w : World) (c0 : w.cell? ⟨B, 8, none⟩ = some (.map (some r))) (hm0 : Has w r u) :
    Calls Yba.prog 14 #[.pointer (some ⟨B, 7, none⟩), .string kk, .agg #[.int .u64 xh, .int .u64 xl], .bool true] w fun e w' => e = .returned (.tuple #[]) ∧ Has w' r (.agg #[.int .u64 xh, .int .u64 xl]) ∧ Kept (Blk r) w w' := by
  have hlt := lt_of_cell c0
  obtain ⟨b, c, hm⟩ := hm0
  have hnil : ∀ w, (Go.binOp .eql 42 (.map (some r)) (.map none)).run Yba.prog w = .ok (.bool false) w := fun w => run_eql_map_nil w 42 9 46 (some r) u42
  have hrl : r < w.heap.size := by rcases Nat.lt_or_ge r w.heap.size with h | h; exact h; rw [Array.getElem?_eq_none h] at hm; cases hm
  have hma : (w.alloc (.cells #[.int .u64 xh, .int .u64 xl] 46)).heap[r]? = some (.map (One u b) c) := (Below.heap_alloc _ _ _ hrl).trans hm
  have hbw : Below w.heap.size w (w.alloc (.cells #[.int .u64 xh, .int .u64 xl] 46)) := (Below.refl w.heap.size w).alloc (Nat.le_refl _) _
  have HF := again_map hma (.agg #[.int .u64 xh, .int .u64 xl]) hbw
  have hup : (Instr.mapUpdate 42 (.map (some r)) (.string kk) (.agg #[.int .u64 xh, .int .u64 xl])).run Yba.prog (w.alloc (.cells #[.int .u64 xh, .int .u64 xl] 46)).drew = .ok () (setBlock (w.alloc (.cells #[.int .u64 xh, .int .u64 xl] 46)) r (.map (One (.agg #[.int .u64 xh, .int .u64 xl]) b) c)).drew := update_one (w := World.drew _) u42 u9 _ hma
  clear hm hma hbw
  generalize setBlock (w.alloc (.cells #[.int .u64 xh, .int .u64 xl] 46)) r (.map (One (.agg #[.int .u64 xh, .int .u64 xl]) b) c) = wf at *
  go_enter Yba.func14, Yba.ntmps14
  go_wp2_with fail
  go_region
  go_end0
  exact ⟨rfl, HF.1, HF.2.drew⟩

end Go.Proofs.Ybulkaqom

/-
  keyStates, one key at most: find, len, remove.
-/
import Derived.Test.YbulkaqomK
namespace Go.Proofs.Ybulkaqom
open Go.RowKit Go.ChangeMaps

set_option maxRecDepth 100000 in
set_option maxHeartbeats 400000 in
theorem findI_newer (B : Nat) (r : Nat) (v : Int) (w : World) (c0 : w.cell? ⟨B, 5, none⟩ = some (.map (some r))) (hm0 : Has w r (.int .i64 v)) :
    Calls Yba.prog 37 #[.pointer (some ⟨B, 5, none⟩), .string kk] w fun e w' => e = .returned (.tuple #[.int .i64 v, .bool false, .bool true]) ∧ w' = w := by
  have hlt := lt_of_cell c0
  have hrl : r < w.heap.size := by obtain ⟨_, _, hm⟩ := hm0; rcases Nat.lt_or_ge r w.heap.size with h | h; exact h; rw [Array.getElem?_eq_none h] at hm; cases hm
  have hl1 : (Instr.lookup 39 (.map (some r)) (.string kk) true).run Yba.prog w = .ok (.tuple #[.int .i64 v, .bool true]) w := by
    obtain ⟨b, c, hm⟩ := hm0
    exact lookup_one u39 u9 (by first | exact hm | exact (Below.heap_alloc _ _ _ hrl).trans hm)
  clear hm0
  go_enter Yba.func37, Yba.ntmps37
  go_wp2_with fail
  simp [bodyPost, results, Yba.results37, go_sem]

set_option maxRecDepth 100000 in
set_option maxHeartbeats 400000 in
theorem findI_older (B : Nat) (r : Nat) (v : Int) (w : World) (c0 : w.cell? ⟨B, 5, none⟩ = some (.map none)) (c1 : w.cell? ⟨B, 6, none⟩ = some (.map (some r))) (hm0 : Has w r (.int .i64 v)) :
    Calls Yba.prog 37 #[.pointer (some ⟨B, 5, none⟩), .string kk] w fun e w' => e = .returned (.tuple #[.int .i64 v, .bool true, .bool true]) ∧ w' = w := by
  have hlt := lt_of_cell c0
  have hrl : r < w.heap.size := by obtain ⟨_, _, hm⟩ := hm0; rcases Nat.lt_or_ge r w.heap.size with h | h; exact h; rw [Array.getElem?_eq_none h] at hm; cases hm
  have hl1 : (Instr.lookup 39 (.map (some r)) (.string kk) true).run Yba.prog w = .ok (.tuple #[.int .i64 v, .bool true]) w := by
    obtain ⟨b, c, hm⟩ := hm0
    exact lookup_one u39 u9 (by first | exact hm | exact (Below.heap_alloc _ _ _ hrl).trans hm)
  clear hm0
  have hl0 : (Instr.lookup 39 (.map none) (.string kk) true).run Yba.prog w = .ok (.tuple #[.int .i64 0, .bool false]) w := lookup_nil u39 u9 (Yba.zeroValue2 _)
  go_enter Yba.func37, Yba.ntmps37
  go_wp2_with fail
  simp [bodyPost, results, Yba.results37, go_sem]

set_option maxRecDepth 100000 in
set_option maxHeartbeats 400000 in
theorem findI_none (B : Nat) (w : World) (c0 : w.cell? ⟨B, 5, none⟩ = some (.map none)) (c1 : w.cell? ⟨B, 6, none⟩ = some (.map none)) :
    Calls Yba.prog 37 #[.pointer (some ⟨B, 5, none⟩), .string kk] w fun e w' => e = .returned (.tuple #[.int .i64 0, .bool false, .bool false]) ∧ w' = w := by
  have hlt := lt_of_cell c0
  have hl0 : (Instr.lookup 39 (.map none) (.string kk) true).run Yba.prog w = .ok (.tuple #[.int .i64 0, .bool false]) w := lookup_nil u39 u9 (Yba.zeroValue2 _)
  go_enter Yba.func37, Yba.ntmps37
  go_wp2_with fail
  simp [bodyPost, results, Yba.results37, go_sem]

set_option maxRecDepth 100000 in
set_option maxHeartbeats 400000 in
theorem lenI_none (B : Nat) (w : World) (c0 : w.cell? ⟨B, 5, none⟩ = some (.map none)) (c1 : w.cell? ⟨B, 6, none⟩ = some (.map none)) :
    Calls Yba.prog 42 #[.pointer (some ⟨B, 5, none⟩)] w fun e w' => e = .returned (.int .i64 0) ∧ ∃ q, w' = w.drewN q := by
  have hl0 : ∀ ty, (Builtin.len_ #[39] ty #[.map none]).run Yba.prog w = .ok (.int .i64 0) w := fun ty => Maps.len_nil u39 ty
  go_enter Yba.func42, Yba.ntmps42
  go_wp2_with fail
  go_quiet (fail)
  go_wp2_with fail
  go_ret
  exact ⟨rfl, _, rfl⟩

set_option maxRecDepth 100000 in
set_option maxHeartbeats 400000 in
theorem lenI_newer (B : Nat) (r n : Nat) (w : World) (c0 : w.cell? ⟨B, 5, none⟩ = some (.map (some r))) (c1 : w.cell? ⟨B, 6, none⟩ = some (.map none)) (hm : ∃ es c, w.heap[r]? = some (.map es c) ∧ es.size = n) (hn : n ≤ 1) :
    Calls Yba.prog 42 #[.pointer (some ⟨B, 5, none⟩)] w fun e w' => e = .returned (.int .i64 n) ∧ ∃ q, w' = w.drewN q := by
  obtain ⟨es, c, hm, hs⟩ := hm
  have hl1 : ∀ ty q, (Builtin.len_ #[39] ty #[.map (some r)]).run Yba.prog (w.drewN q) = .ok (.int .i64 n) (w.drewN q) := fun ty q => by rw [← hs]; exact len_map (w := w.drewN q) u39 hm
  clear hm hs
  have hl0 : ∀ ty, (Builtin.len_ #[39] ty #[.map none]).run Yba.prog w = .ok (.int .i64 0) w := fun ty => Maps.len_nil u39 ty
  go_enter Yba.func42, Yba.ntmps42
  go_wp2_with fail
  go_quiet (fail)
  go_wp2_with fail
  go_ret
  exact ⟨rfl, _, rfl⟩

set_option maxRecDepth 100000 in
set_option maxHeartbeats 400000 in
theorem lenI_older (B : Nat) (r n : Nat) (w : World) (c0 : w.cell? ⟨B, 5, none⟩ = some (.map none)) (c1 : w.cell? ⟨B, 6, none⟩ = some (.map (some r))) (hm : ∃ es c, w.heap[r]? = some (.map es c) ∧ es.size = n) (hn : n ≤ 1) :
    Calls Yba.prog 42 #[.pointer (some ⟨B, 5, none⟩)] w fun e w' => e = .returned (.int .i64 n) ∧ ∃ q, w' = w.drewN q := by
  obtain ⟨es, c, hm, hs⟩ := hm
  have hl1 : ∀ ty q, (Builtin.len_ #[39] ty #[.map (some r)]).run Yba.prog (w.drewN q) = .ok (.int .i64 n) (w.drewN q) := fun ty q => by rw [← hs]; exact len_map (w := w.drewN q) u39 hm
  clear hm hs
  have hl0 : ∀ ty, (Builtin.len_ #[39] ty #[.map none]).run Yba.prog w = .ok (.int .i64 0) w := fun ty => Maps.len_nil u39 ty
  go_enter Yba.func42, Yba.ntmps42
  go_wp2_with fail
  go_quiet (fail)
  go_wp2_with fail
  go_ret
  exact ⟨rfl, _, rfl⟩

set_option maxRecDepth 100000 in
set_option maxHeartbeats 400000 in
theorem findU_newer (B : Nat) (r : Nat) (xh xl : Int) (w : World) (c0 : w.cell? ⟨B, 7, none⟩ = some (.map (some r))) (hm0 : Has w r (.agg #[.int .u64 xh, .int .u64 xl])) :
    Calls Yba.prog 41 #[.pointer (some ⟨B, 7, none⟩), .string kk] w fun e w' => e = .returned (.tuple #[.agg #[.int .u64 xh, .int .u64 xl], .bool false, .bool true]) ∧ Below w.heap.size w w' := by
  have hlt := lt_of_cell c0
  have hrl : r < w.heap.size := by obtain ⟨_, _, hm⟩ := hm0; rcases Nat.lt_or_ge r w.heap.size with h | h; exact h; rw [Array.getElem?_eq_none h] at hm; cases hm
  have hl1 : (Instr.lookup 42 (.map (some r)) (.string kk) true).run Yba.prog (w.alloc (.cells #[.int .u64 0, .int .u64 0] 46)) = .ok (.tuple #[.agg #[.int .u64 xh, .int .u64 xl], .bool true]) (w.alloc (.cells #[.int .u64 0, .int .u64 0] 46)) := by
    obtain ⟨b, c, hm⟩ := hm0
    exact lookup_one u42 u9 (by first | exact hm | exact (Below.heap_alloc _ _ _ hrl).trans hm)
  clear hm0
  go_enter Yba.func41, Yba.ntmps41
  go_wp2_with fail
  simp [bodyPost, results, Yba.results41, go_sem]
  exact (Below.refl w.heap.size w).alloc (Nat.le_refl _) _

set_option maxRecDepth 100000 in
set_option maxHeartbeats 400000 in
theorem findU_older (B : Nat) (r : Nat) (xh xl : Int) (w : World) (c0 : w.cell? ⟨B, 7, none⟩ = some (.map none)) (c1 : w.cell? ⟨B, 8, none⟩ = some (.map (some r))) (hm0 : Has w r (.agg #[.int .u64 xh, .int .u64 xl])) :
    Calls Yba.prog 41 #[.pointer (some ⟨B, 7, none⟩), .string kk] w fun e w' => e = .returned (.tuple #[.agg #[.int .u64 xh, .int .u64 xl], .bool true, .bool true]) ∧ Below w.heap.size w w' := by
  have hlt := lt_of_cell c0
  have hrl : r < w.heap.size := by obtain ⟨_, _, hm⟩ := hm0; rcases Nat.lt_or_ge r w.heap.size with h | h; exact h; rw [Array.getElem?_eq_none h] at hm; cases hm
  have hl1 : (Instr.lookup 42 (.map (some r)) (.string kk) true).run Yba.prog (w.alloc (.cells #[.int .u64 0, .int .u64 0] 46)) = .ok (.tuple #[.agg #[.int .u64 xh, .int .u64 xl], .bool true]) (w.alloc (.cells #[.int .u64 0, .int .u64 0] 46)) := by
    obtain ⟨b, c, hm⟩ := hm0
    exact lookup_one u42 u9 (by first | exact hm | exact (Below.heap_alloc _ _ _ hrl).trans hm)
  clear hm0
  have hl0 : (Instr.lookup 42 (.map none) (.string kk) true).run Yba.prog (w.alloc (.cells #[.int .u64 0, .int .u64 0] 46)) = .ok (.tuple #[.agg #[.int .u64 0, .int .u64 0], .bool false]) (w.alloc (.cells #[.int .u64 0, .int .u64 0] 46)) := lookup_nil u42 u9 (Yba.zeroValue46 _)
  go_enter Yba.func41, Yba.ntmps41
  go_wp2_with fail
  simp [bodyPost, results, Yba.results41, go_sem]
  exact (Below.refl w.heap.size w).alloc (Nat.le_refl _) _

set_option maxRecDepth 100000 in
set_option maxHeartbeats 400000 in
theorem lenU_none (B : Nat) (w : World) (c0 : w.cell? ⟨B, 7, none⟩ = some (.map none)) (c1 : w.cell? ⟨B, 8, none⟩ = some (.map none)) :
    Calls Yba.prog 40 #[.pointer (some ⟨B, 7, none⟩)] w fun e w' => e = .returned (.int .i64 0) ∧ ∃ q, w' = w.drewN q := by
  have hl0 : ∀ ty, (Builtin.len_ #[42] ty #[.map none]).run Yba.prog w = .ok (.int .i64 0) w := fun ty => Maps.len_nil u42 ty
  go_enter Yba.func40, Yba.ntmps40
  go_wp2_with fail
  go_quiet (fail)
  go_wp2_with fail
  go_ret
  exact ⟨rfl, _, rfl⟩

set_option maxRecDepth 100000 in
set_option maxHeartbeats 400000 in
theorem lenU_newer (B : Nat) (r n : Nat) (w : World) (c0 : w.cell? ⟨B, 7, none⟩ = some (.map (some r))) (c1 : w.cell? ⟨B, 8, none⟩ = some (.map none)) (hm : ∃ es c, w.heap[r]? = some (.map es c) ∧ es.size = n) (hn : n ≤ 1) :
    Calls Yba.prog 40 #[.pointer (some ⟨B, 7, none⟩)] w fun e w' => e = .returned (.int .i64 n) ∧ ∃ q, w' = w.drewN q := by
  obtain ⟨es, c, hm, hs⟩ := hm
  have hl1 : ∀ ty q, (Builtin.len_ #[42] ty #[.map (some r)]).run Yba.prog (w.drewN q) = .ok (.int .i64 n) (w.drewN q) := fun ty q => by rw [← hs]; exact len_map (w := w.drewN q) u42 hm
  clear hm hs
  have hl0 : ∀ ty, (Builtin.len_ #[42] ty #[.map none]).run Yba.prog w = .ok (.int .i64 0) w := fun ty => Maps.len_nil u42 ty
  go_enter Yba.func40, Yba.ntmps40
  go_wp2_with fail
  go_quiet (fail)
  go_wp2_with fail
  go_ret
  exact ⟨rfl, _, rfl⟩

set_option maxRecDepth 100000 in
set_option maxHeartbeats 400000 in
theorem lenU_older (B : Nat) (r n : Nat) (w : World) (c0 : w.cell? ⟨B, 7, none⟩ = some (.map none)) (c1 : w.cell? ⟨B, 8, none⟩ = some (.map (some r))) (hm : ∃ es c, w.heap[r]? = some (.map es c) ∧ es.size = n) (hn : n ≤ 1) :
    Calls Yba.prog 40 #[.pointer (some ⟨B, 7, none⟩)] w fun e w' => e = .returned (.int .i64 n) ∧ ∃ q, w' = w.drewN q := by
  obtain ⟨es, c, hm, hs⟩ := hm
  have hl1 : ∀ ty q, (Builtin.len_ #[42] ty #[.map (some r)]).run Yba.prog (w.drewN q) = .ok (.int .i64 n) (w.drewN q) := fun ty q => by rw [← hs]; exact len_map (w := w.drewN q) u42 hm
  clear hm hs
  have hl0 : ∀ ty, (Builtin.len_ #[42] ty #[.map none]).run Yba.prog w = .ok (.int .i64 0) w := fun ty => Maps.len_nil u42 ty
  go_enter Yba.func40, Yba.ntmps40
  go_wp2_with fail
  go_quiet (fail)
  go_wp2_with fail
  go_ret
  exact ⟨rfl, _, rfl⟩

set_option maxRecDepth 100000 in
set_option maxHeartbeats 400000 in
theorem findH_newer (B : Nat) (r : Nat) (v : Value) (w : World) (c0 : w.cell? ⟨B, 17, none⟩ = some (.map (some r))) (hm0 : Has w r (v)) :
    Calls Yba.prog 20 #[.pointer (some ⟨B, 17, none⟩), .string kk] w fun e w' => e = .returned (.tuple #[v, .bool false, .bool true]) ∧ w' = w := by
  have hlt := lt_of_cell c0
  have hrl : r < w.heap.size := by obtain ⟨_, _, hm⟩ := hm0; rcases Nat.lt_or_ge r w.heap.size with h | h; exact h; rw [Array.getElem?_eq_none h] at hm; cases hm
  have hl1 : (Instr.lookup 49 (.map (some r)) (.string kk) true).run Yba.prog w = .ok (.tuple #[v, .bool true]) w := by
    obtain ⟨b, c, hm⟩ := hm0
    exact lookup_one u49 u9 (by first | exact hm | exact (Below.heap_alloc _ _ _ hrl).trans hm)
  clear hm0
  go_enter Yba.func20, Yba.ntmps20
  go_wp2_with fail
  simp [bodyPost, results, Yba.results20, go_sem]

set_option maxRecDepth 100000 in
set_option maxHeartbeats 400000 in
theorem findH_older (B : Nat) (r : Nat) (v : Value) (w : World) (c0 : w.cell? ⟨B, 17, none⟩ = some (.map none)) (c1 : w.cell? ⟨B, 18, none⟩ = some (.map (some r))) (hm0 : Has w r (v)) :
    Calls Yba.prog 20 #[.pointer (some ⟨B, 17, none⟩), .string kk] w fun e w' => e = .returned (.tuple #[v, .bool true, .bool true]) ∧ w' = w := by
  have hlt := lt_of_cell c0
  have hrl : r < w.heap.size := by obtain ⟨_, _, hm⟩ := hm0; rcases Nat.lt_or_ge r w.heap.size with h | h; exact h; rw [Array.getElem?_eq_none h] at hm; cases hm
  have hl1 : (Instr.lookup 49 (.map (some r)) (.string kk) true).run Yba.prog w = .ok (.tuple #[v, .bool true]) w := by
    obtain ⟨b, c, hm⟩ := hm0
    exact lookup_one u49 u9 (by first | exact hm | exact (Below.heap_alloc _ _ _ hrl).trans hm)
  clear hm0
  have hl0 : (Instr.lookup 49 (.map none) (.string kk) true).run Yba.prog w = .ok (.tuple #[.pointer none, .bool false]) w := lookup_nil u49 u9 (Yba.zeroValue56 _)
  go_enter Yba.func20, Yba.ntmps20
  go_wp2_with fail
  simp [bodyPost, results, Yba.results20, go_sem]

set_option maxRecDepth 100000 in
set_option maxHeartbeats 400000 in
theorem findH_none (B : Nat) (w : World) (c0 : w.cell? ⟨B, 17, none⟩ = some (.map none)) (c1 : w.cell? ⟨B, 18, none⟩ = some (.map none)) :
    Calls Yba.prog 20 #[.pointer (some ⟨B, 17, none⟩), .string kk] w fun e w' => e = .returned (.tuple #[.pointer none, .bool false, .bool false]) ∧ w' = w := by
  have hlt := lt_of_cell c0
  have hl0 : (Instr.lookup 49 (.map none) (.string kk) true).run Yba.prog w = .ok (.tuple #[.pointer none, .bool false]) w := lookup_nil u49 u9 (Yba.zeroValue56 _)
  go_enter Yba.func20, Yba.ntmps20
  go_wp2_with fail
  simp [bodyPost, results, Yba.results20, go_sem]

set_option maxRecDepth 100000 in
set_option maxHeartbeats 400000 in
theorem findH_enewer (B : Nat) (r : Nat) (w : World) (c0 : w.cell? ⟨B, 17, none⟩ = some (.map (some r))) (c1 : w.cell? ⟨B, 18, none⟩ = some (.map none)) (hm0 : Emp w r) :
    Calls Yba.prog 20 #[.pointer (some ⟨B, 17, none⟩), .string kk] w fun e w' => e = .returned (.tuple #[.pointer none, .bool false, .bool false]) ∧ w' = w := by
  have hlt := lt_of_cell c0
  have hrl : r < w.heap.size := by obtain ⟨_, hm⟩ := hm0; rcases Nat.lt_or_ge r w.heap.size with h | h; exact h; rw [Array.getElem?_eq_none h] at hm; cases hm
  have hl1 : (Instr.lookup 49 (.map (some r)) (.string kk) true).run Yba.prog w = .ok (.tuple #[.pointer none, .bool false]) w := by
    obtain ⟨c, hm⟩ := hm0
    exact lookup_empty u49 u9 (Yba.zeroValue56 _) (by first | exact hm | exact (Below.heap_alloc _ _ _ hrl).trans hm)
  clear hm0
  have hl0 : (Instr.lookup 49 (.map none) (.string kk) true).run Yba.prog w = .ok (.tuple #[.pointer none, .bool false]) w := lookup_nil u49 u9 (Yba.zeroValue56 _)
  go_enter Yba.func20, Yba.ntmps20
  go_wp2_with fail
  simp [bodyPost, results, Yba.results20, go_sem]

set_option maxRecDepth 100000 in
set_option maxHeartbeats 400000 in
theorem findH_eolder (B : Nat) (r : Nat) (w : World) (c0 : w.cell? ⟨B, 17, none⟩ = some (.map none)) (c1 : w.cell? ⟨B, 18, none⟩ = some (.map (some r))) (hm0 : Emp w r) :
    Calls Yba.prog 20 #[.pointer (some ⟨B, 17, none⟩), .string kk] w fun e w' => e = .returned (.tuple #[.pointer none, .bool false, .bool false]) ∧ w' = w := by
  have hlt := lt_of_cell c0
  have hrl : r < w.heap.size := by obtain ⟨_, hm⟩ := hm0; rcases Nat.lt_or_ge r w.heap.size with h | h; exact h; rw [Array.getElem?_eq_none h] at hm; cases hm
  have hl1 : (Instr.lookup 49 (.map (some r)) (.string kk) true).run Yba.prog w = .ok (.tuple #[.pointer none, .bool false]) w := by
    obtain ⟨c, hm⟩ := hm0
    exact lookup_empty u49 u9 (Yba.zeroValue56 _) (by first | exact hm | exact (Below.heap_alloc _ _ _ hrl).trans hm)
  clear hm0
  have hl0 : (Instr.lookup 49 (.map none) (.string kk) true).run Yba.prog w = .ok (.tuple #[.pointer none, .bool false]) w := lookup_nil u49 u9 (Yba.zeroValue56 _)
  go_enter Yba.func20, Yba.ntmps20
  go_wp2_with fail
  simp [bodyPost, results, Yba.results20, go_sem]

set_option maxRecDepth 100000 in
set_option maxHeartbeats 400000 in
theorem lenH_none (B : Nat) (w : World) (c0 : w.cell? ⟨B, 17, none⟩ = some (.map none)) (c1 : w.cell? ⟨B, 18, none⟩ = some (.map none)) :
    Calls Yba.prog 21 #[.pointer (some ⟨B, 17, none⟩)] w fun e w' => e = .returned (.int .i64 0) ∧ ∃ q, w' = w.drewN q := by
  have hl0 : ∀ ty, (Builtin.len_ #[49] ty #[.map none]).run Yba.prog w = .ok (.int .i64 0) w := fun ty => Maps.len_nil u49 ty
  go_enter Yba.func21, Yba.ntmps21
  go_wp2_with fail
  go_quiet (fail)
  go_wp2_with fail
  go_ret
  exact ⟨rfl, _, rfl⟩

set_option maxRecDepth 100000 in
set_option maxHeartbeats 400000 in
theorem lenH_newer (B : Nat) (r n : Nat) (w : World) (c0 : w.cell? ⟨B, 17, none⟩ = some (.map (some r))) (c1 : w.cell? ⟨B, 18, none⟩ = some (.map none)) (hm : ∃ es c, w.heap[r]? = some (.map es c) ∧ es.size = n) (hn : n ≤ 1) :
    Calls Yba.prog 21 #[.pointer (some ⟨B, 17, none⟩)] w fun e w' => e = .returned (.int .i64 n) ∧ ∃ q, w' = w.drewN q := by
  obtain ⟨es, c, hm, hs⟩ := hm
  have hl1 : ∀ ty q, (Builtin.len_ #[49] ty #[.map (some r)]).run Yba.prog (w.drewN q) = .ok (.int .i64 n) (w.drewN q) := fun ty q => by rw [← hs]; exact len_map (w := w.drewN q) u49 hm
  clear hm hs
  have hl0 : ∀ ty, (Builtin.len_ #[49] ty #[.map none]).run Yba.prog w = .ok (.int .i64 0) w := fun ty => Maps.len_nil u49 ty
  go_enter Yba.func21, Yba.ntmps21
  go_wp2_with fail
  go_quiet (fail)
  go_wp2_with fail
  go_ret
  exact ⟨rfl, _, rfl⟩

set_option maxRecDepth 100000 in
set_option maxHeartbeats 400000 in
theorem lenH_older (B : Nat) (r n : Nat) (w : World) (c0 : w.cell? ⟨B, 17, none⟩ = some (.map none)) (c1 : w.cell? ⟨B, 18, none⟩ = some (.map (some r))) (hm : ∃ es c, w.heap[r]? = some (.map es c) ∧ es.size = n) (hn : n ≤ 1) :
    Calls Yba.prog 21 #[.pointer (some ⟨B, 17, none⟩)] w fun e w' => e = .returned (.int .i64 n) ∧ ∃ q, w' = w.drewN q := by
  obtain ⟨es, c, hm, hs⟩ := hm
  have hl1 : ∀ ty q, (Builtin.len_ #[49] ty #[.map (some r)]).run Yba.prog (w.drewN q) = .ok (.int .i64 n) (w.drewN q) := fun ty q => by rw [← hs]; exact len_map (w := w.drewN q) u49 hm
  clear hm hs
  have hl0 : ∀ ty, (Builtin.len_ #[49] ty #[.map none]).run Yba.prog w = .ok (.int .i64 0) w := fun ty => Maps.len_nil u49 ty
  go_enter Yba.func21, Yba.ntmps21
  go_wp2_with fail
  go_quiet (fail)
  go_wp2_with fail
  go_ret
  exact ⟨rfl, _, rfl⟩

set_option maxRecDepth 100000 in
set_option maxHeartbeats 400000 in
theorem removeH_newer (B r : Nat) (u : Value) (w : World) (c0 : w.cell? ⟨B, 17, none⟩ = some (.map (some r))) (hm0 : Has w r u) :
    Calls Yba.prog 36 #[.pointer (some ⟨B, 17, none⟩), .string kk, .bool false] w fun e w' => e = .returned (.tuple #[]) ∧ Emp w' r ∧ Kept (Blk r) w w' := by
  obtain ⟨b, c, hm⟩ := hm0
  have HF := gone_map hm (Below.refl w.heap.size w)
  have hdl : ∀ ty, (Builtin.delete_ #[49, 9] ty #[.map (some r), .string kk]).run Yba.prog w = .ok (.tuple #[]) (setBlock w r (.map #[] c)) := fun ty => delete_one u49 u9 hm
  clear hm
  generalize setBlock w r (.map #[] c) = wf at *
  go_enter Yba.func36, Yba.ntmps36
  go_wp2_with fail
  go_end0
  exact ⟨rfl, HF⟩

set_option maxRecDepth 100000 in
set_option maxHeartbeats 400000 in
theorem removeH_older (B r : Nat) (u : Value) (w : World) (c0 : w.cell? ⟨B, 18, none⟩ = some (.map (some r))) (hm0 : Has w r u) :
    Calls Yba.prog 36 #[.pointer (some ⟨B, 17, none⟩), .string kk, .bool true] w fun e w' => e = .returned (.tuple #[]) ∧ Emp w' r ∧ Kept (Blk r) w w' := by
  obtain ⟨b, c, hm⟩ := hm0
  have HF := gone_map hm (Below.refl w.heap.size w)
  have hdl : ∀ ty, (Builtin.delete_ #[49, 9] ty #[.map (some r), .string kk]).run Yba.prog w = .ok (.tuple #[]) (setBlock w r (.map #[] c)) := fun ty => delete_one u49 u9 hm
  clear hm
  generalize setBlock w r (.map #[] c) = wf at *
  go_enter Yba.func36, Yba.ntmps36
  go_wp2_with fail
  go_end0
  exact ⟨rfl, HF⟩

end Go.Proofs.Ybulkaqom

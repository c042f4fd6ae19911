/-
  MAPS OF ONE KEY AT MOST: lookup, update, delete, len. Nothing of the loaded program is named here.
-/
import Derived.Test.YbulkaqomHeap
import Derived.WideMake
import Derived.ChangeMaps5
import Derived.Maps.OwnSet
namespace Go.Proofs.Ybulkaqom
open Go Go.RowKit Go.ChangeMaps

@[reducible] def kk : ByteArray := { data := #[107] }
def One (v : Value) (born : Nat) : Array MapEntry := #[{ key := .string kk, val := v, born := born }]

variable {P : Program}

theorem find_one (v : Value) (born : Nat) : Instr.findNow .string (.string kk) (One v born).toList 0 = some (some (0, v)) := by
  have h : (kk == kk) = true := rfl
  simp [One, Instr.findNow, Instr.sameNow, h]

theorem lookup_one {t k e : TypeId} (ht : P.underlying t = some (.map k e)) (hk : P.underlying k = some .string) {w : World} {r born c : Nat} {v : Value} (hb : w.heap[r]? = some (.map (One v born) c)) :
    (Instr.lookup t (.map (some r)) (.string kk) true).run P w = .ok (.tuple #[v, .bool true]) w := by
  have hc : ∀ em, (Instr.checkKey em 10000 k (.string kk)).run P w = .ok () w := fun em => MapKept.run_checkKey (k := .string kk) hk (by simp [MapKept.IsKey]) em 9999
  simp [Instr.lookup, run_underlying ht, MapKept.run_getObj_map hb, hc, MapKept.run_findKey hk (find_one v born), Result.andThen]

theorem lookup_empty {t k e : TypeId} (ht : P.underlying t = some (.map k e)) (hk : P.underlying k = some .string) {w : World} {r c : Nat} {z : Value} (hz : (zeroValue e).run P w = .ok z w) (hb : w.heap[r]? = some (.map #[] c)) :
    (Instr.lookup t (.map (some r)) (.string kk) true).run P w = .ok (.tuple #[z, .bool false]) w := by
  have hc : ∀ em, (Instr.checkKey em 10000 k (.string kk)).run P w = .ok () w := fun em => MapKept.run_checkKey (k := .string kk) hk (by simp [MapKept.IsKey]) em 9999
  have hf : Instr.findNow .string (.string kk) ([] : List MapEntry) 0 = some none := rfl
  simp [Instr.lookup, run_underlying ht, MapKept.run_getObj_map hb, hc, MapKept.run_findKey hk hf, Result.andThen, hz]

theorem lookup_nil {t k e : TypeId} (ht : P.underlying t = some (.map k e)) (hk : P.underlying k = some .string) {w : World} {z : Value} (hz : (zeroValue e).run P w = .ok z w) :
    (Instr.lookup t (.map none) (.string kk) true).run P w = .ok (.tuple #[z, .bool false]) w := by
  have hc : ∀ em, (Instr.checkKey em 10000 k (.string kk)).run P w = .ok () w := fun em => MapKept.run_checkKey (k := .string kk) hk (by simp [MapKept.IsKey]) em 9999
  have hf : Instr.findNow .string (.string kk) ([] : List MapEntry) 0 = some none := rfl
  simp [Instr.lookup, run_underlying ht, hc, MapKept.run_findKey hk hf, Result.andThen, hz]

theorem update_first {t k e : TypeId} (ht : P.underlying t = some (.map k e)) (hk : P.underlying k = some .string) {w : World} {r c : Nat} (v : Value) (hb : w.heap[r]? = some (.map #[] c)) :
    (Instr.mapUpdate t (.map (some r)) (.string kk) v).run P w = .ok () (setBlock w r (.map (One v c) (c + 1))) := run_mapUpdate_first w t k e r c kk v ht hk hb

theorem update_one {t k e : TypeId} (ht : P.underlying t = some (.map k e)) (hk : P.underlying k = some .string) {w : World} {r born c : Nat} {u : Value} (v : Value) (hb : w.heap[r]? = some (.map (One u born) c)) :
    (Instr.mapUpdate t (.map (some r)) (.string kk) v).run P w = .ok () (setBlock w r (.map (One v born) c)) := by
  have hc : ∀ em, (Instr.checkKey em 10000 k (.string kk)).run P w = .ok () w := fun em => MapKept.run_checkKey (k := .string kk) hk (by simp [MapKept.IsKey]) em 9999
  have h0 : ((One u born)[0]?).map (·.key) = some (.string kk) := rfl
  have hm : (One u born).modify 0 (fun e => { e with key := .string kk, val := v }) = One v born := by simp [One]
  have hs : (Instr.keyThatStays (.string kk) (.string kk)).run P w = .ok (.string kk) w := MapKept.run_keyThatStays (d := .string) (by simp [MapKept.IsKey])
  simp [Instr.mapUpdate, run_underlying ht, MapKept.run_getObj_map hb, hc, MapKept.run_findKey hk (find_one u born), MapKept.run_setObj_map _ hb, Result.andThen, h0, hs, hm, setBlock]

theorem delete_one {t k e ty : TypeId} (ht : P.underlying t = some (.map k e)) (hk : P.underlying k = some .string) {w : World} {r born c : Nat} {u : Value} (hb : w.heap[r]? = some (.map (One u born) c)) :
    (Builtin.delete_ #[t, k] ty #[.map (some r), .string kk]).run P w = .ok (.tuple #[]) (setBlock w r (.map #[] c)) := by
  have hc : ∀ em, (Instr.checkKey em 10000 k (.string kk)).run P w = .ok () w := fun em => MapKept.run_checkKey (k := .string kk) hk (by simp [MapKept.IsKey]) em 9999
  have he : (One u born).eraseIdxIfInBounds 0 = #[] := by simp [One, Array.eraseIdxIfInBounds]
  simp [Builtin.delete_, run_underlying ht, MapKept.run_getObj_map hb, hc, MapKept.run_findKey hk (find_one u born), MapKept.run_setObj_map _ hb, Result.andThen, he, setBlock]

theorem len_map {t k e ty : TypeId} (ht : P.underlying t = some (.map k e)) {w : World} {r c : Nat} {es : Array MapEntry} (hb : w.heap[r]? = some (.map es c)) :
    (Builtin.len_ #[t] ty #[.map (some r)]).run P w = .ok (.int .i64 es.size) w := by
  simp [Builtin.len_, run_underlying ht, MapKept.run_getObj_map hb, Result.andThen]
  rfl

theorem Kept.setBlock {T : Nat → Nat → Prop} {a w : World} (h : Kept T a w) {r c c' : Nat} {es es' : Array MapEntry} (hb : w.heap[r]? = some (.map es c)) (hT : (∀ o, T r o) ∨ a.heap.size ≤ r) : Kept T a (setBlock w r (.map es' c')) := by
  have key : ∀ k, k < a.heap.size → (∀ o, T r o) ∧ k = r ∨ (Go.ChangeMaps.setBlock w r (.map es' c')).heap[k]? = w.heap[k]? := by
    intro k hk
    by_cases hkr : k = r
    · rcases hT with hT | hT
      · exact .inl ⟨hT, hkr⟩
      · omega
    · exact .inr (heap_setBlock_other hb _ hkr)
  refine ⟨h.os, h.tape, h.output, by simpa [Go.ChangeMaps.setBlock] using h.size, fun k hk ht => ?_, fun k j hk ht => ?_, fun k j hk => (frozen?_setBlock hb _).trans (h.frozen k j hk)⟩
  · rcases key k hk with ⟨h1, rfl⟩ | h1
    · exact absurd (h1 0) (ht 0)
    · exact h1.trans (h.block k hk ht)
  · rcases key k hk with ⟨h1, rfl⟩ | h1
    · exact absurd (h1 j) ht
    · exact (World.cell?_of_block (w := w) h1).trans (h.cell k j hk ht)

theorem cell_setBlock {w : World} {r c c' k j : Nat} {es es' : Array MapEntry} (hb : w.heap[r]? = some (.map es c)) (h : k ≠ r) : (setBlock w r (.map es' c')).cell? ⟨k, j, none⟩ = w.cell? ⟨k, j, none⟩ :=
  World.cell?_of_block (w := w) (heap_setBlock_other hb _ h)
theorem size_setBlock (w : World) (r : Nat) (o : Obj) : (setBlock w r o).heap.size = w.heap.size := by simp [setBlock]

end Go.Proofs.Ybulkaqom

/-
  slices.Grow AT []uint64, WALKED OVER THIS PROGRAM (after the library's Derived/Shelf/Spec/SlicesGrow.lean), and said of rows of words ('Row').
-/
import Derived.Test.YbulkaqnyDoorRows
import Derived.Test.YbulkaqnyDoorHeap
import Derived.WalkSpells
import Derived.WalkLawsBesides
import Derived.Lib.Walk
import Derived.Lib.SliceRun
import Derived.Lib.AppendZerosOnto
namespace Go.Proofs.YbulkaqnyDoor
open Go.RowKit Go.Lib

theorem info30 : (Ybad.prog.info? 30).map (fun i => (i.zero, i.size, i.bytes)) = some (some (.int .u64 0), 1, 8) := by kernel_rfl

set_option maxHeartbeats 1000000 in
set_option maxRecDepth 100000 in
theorem grow_room (base : Option Addr) (l c : Nat) (n : Int) (w : World) (hlc : l ≤ c) (hc63 : c ≤ 9223372036854775807) (hn0 : 0 ≤ n) (hn63 : n ≤ 9223372036854775807) (hroom : (l : Int) + n ≤ c) :
    Calls Ybad.prog 7 #[.slice base l c, .int .i64 n] w fun e w' => e = .returned (.slice base l c) ∧ w' = w := by
  have h1 : ¬ (n < 0) := by omega
  go_enter Ybad.func7, Ybad.ntmps7
  go_wp2
  go_ret
  exact ⟨rfl, rfl⟩

set_option maxHeartbeats 2000000 in
set_option maxRecDepth 100000 in
theorem grow_grow (base : Option Addr) (l c : Nat) (n : Nat) (cs : List Value) (w : World) (hlc : l ≤ c) (hroom : c < l + n) (hbig : (l + n) * 8 ≤ 140737488355328)
    (hcl : cs.length = c) (hnil : base = none → c = 0) (hcs : ∀ a, base = some a → ∀ j v, cs[j]? = some v → w.cell? (a.add j) = some v) :
    Calls Ybad.prog 7 #[.slice base l c, .int .i64 n] w fun e w' =>
      e = .returned (.slice (some ⟨w.heap.size, 0, none⟩) l (grownCap w (l + n) c 30)) ∧
      w' = w.drew.alloc (.cells (cs.toArray ++ Builtin.zeroCells #[.int .u64 0] (l + n - c) ++ Builtin.zeroCells #[.int .u64 0] (grownCap w (l + n) c 30 - (l + n))) 30) := by
  obtain ⟨i0, hi0, hz0, hz1, hz2⟩ := info_parts info30
  have h1 : ¬ ((n : Int) < 0) := by omega
  have h4 : (n : Int) - ((c : Int) - (l : Int)) > 0 := by omega
  have hck : c + (l + n - c) = l + n := by omega
  have hold : (Builtin.firstCells i0.size c (.slice base c c)).run Ybad.prog w.drew = .ok cs.toArray w.drew := by
    cases base with
    | none =>
      have h0 := hnil rfl
      subst h0
      have hc0 : cs = [] := List.length_eq_zero_iff.1 (by simpa using hcl)
      rw [hc0]
      exact run_firstCells_none w.drew i0.size 0 0 0
    | some a => exact run_firstCells_some w.drew i0.size c a c c cs (by rw [hz1, hcl]; simp) (fun j v hj => hcs a rfl j v hj)
  have hrz : ∀ ty, (Builtin.append_ #[38, 3] ty #[.slice base c c, .int .i64 ((n : Int) - ((c : Int) - (l : Int)))]).run Ybad.prog w =
      .ok (.slice (some ⟨w.heap.size, 0, none⟩) (l + n) (grownCap w (l + n) c 30)) (w.drew.alloc (.cells (cs.toArray ++ Builtin.zeroCells #[.int .u64 0] (l + n - c) ++ Builtin.zeroCells #[.int .u64 0] (grownCap w (l + n) c 30 - (l + n))) 30)) := fun ty => by
    have h := Lib.run_append_grow_zeros w 38 3 ty 30 i0 (.int .u64 0) .i64 .i64 Ybad.underlying38 Ybad.underlying3 hi0 hz0 base c c cs hold (l + n - c) (by omega) (by omega) (by omega) (by omega)
      (by rw [hz2]; omega)
      (by rw [hck]; exact growslice_fits hroom (by rw [hz2]; exact hbig))
    rw [hck] at h
    rw [show (n : Int) - ((c : Int) - (l : Int)) = ((l + n - c : Nat) : Int) by omega]
    exact h
  have hGn : l + n ≤ grownCap w (l + n) c 30 := grownCap_ge w _ _ _
  obtain ⟨G, hG⟩ : ∃ G, G = grownCap w (l + n) c 30 := ⟨_, rfl⟩
  rw [← hG] at hrz hGn ⊢
  have hG63 : G ≤ 9223372036854775807 := by
    have := grownCap_le_maxLen w (l + n) c 30 (by unfold maxLen; omega)
    rw [← hG] at this
    unfold maxLen at this
    omega
  clear hold hck hG hcs hcl hi0 hz0 hz1 hz2
  go_enter Ybad.func7, Ybad.ntmps7
  cases base with
  | none =>
    have h0 := hnil rfl
    subst h0
    obtain rfl : l = 0 := by omega
    go_wp2_with (at_builtin; refine Lib.wpList_append_run _ rfl _ _ _ _ rfl _ _ rfl rfl _ _ (hrz _) ?_)
    all_goals (go_ret; exact ⟨rfl, rfl⟩)
  | some a =>
    obtain ⟨ab, ao, asp⟩ := a
    go_wp2_with (at_builtin; refine Lib.wpList_append_run _ rfl _ _ _ _ rfl _ _ rfl rfl _ _ (hrz _) ?_)
    all_goals (go_ret; exact ⟨rfl, rfl⟩)

theorem zeros_list (n : Nat) : Builtin.zeroCells #[.int .u64 0] n = (List.replicate n (Value.int .u64 0)).toArray := by
  apply Array.ext
  · simp [Builtin.zeroCells]
  · intro i h1 h2
    simp [Builtin.zeroCells, Nat.mod_one]

/-- The cells that slices.Grow lays: the words, then noughts. -/
theorem grown_cells (cs : List Nat) (p q : Nat) : ((cs.map fun x : Nat => Value.int .u64 (x : Int)).toArray ++ Builtin.zeroCells #[.int .u64 0] p ++ Builtin.zeroCells #[.int .u64 0] q)
    = ((cs ++ List.replicate (p + q) 0).map fun x : Nat => Value.int .u64 (x : Int)).toArray := by
  rw [zeros_list, zeros_list]
  simp

theorem row_new (w : World) (cs : List Nat) (c : Nat) (h : cs.length = c) (hc : c ≤ 9223372036854775807) : Row (w.alloc (.cells (cs.map fun x : Nat => Value.int .u64 (x : Int)).toArray 30)) w.heap.size c cs := by
  refine ⟨h, fun j hj => ?_, fun j hj => by simp, by simp, hc⟩
  rw [World.cell?_alloc_new]
  subst h
  simp [hj]

/-- What slices.Grow leaves: room for n words more behind the l that were there. -/
def Grown' (w w' : World) (l n : Nat) (cs : List Nat) (may : Nat → Prop) (e : Ending) : Prop :=
  ∃ bh c cs2, e = .returned (.slice (some ⟨bh, 0, none⟩) l c) ∧ Row w' bh c cs2 ∧ l + n ≤ c ∧ (∀ j, j < l → cs2.getD j 0 = cs.getD j 0) ∧ (may bh ∨ bh = w.heap.size) ∧ Kept (fun _ _ => False) w w'

theorem grow_row (bh l c n : Nat) (cs : List Nat) (w : World) (hr : Row w bh c cs) (hlc : l ≤ c) (hb : l + n ≤ 1000000) :
    Calls Ybad.prog 7 #[.slice (some ⟨bh, 0, none⟩) l c, .int .i64 n] w fun e w' => Grown' w w' l n cs (· = bh) e := by
  by_cases hroom : l + n ≤ c
  · refine (grow_room _ _ _ _ _ hlc hr.capb (by omega) (by omega) (by omega)).mono ?_
    rintro e w' ⟨rfl, hw⟩
    subst w'
    exact ⟨bh, c, cs, rfl, hr, hroom, fun _ _ => rfl, .inl rfl, Kept.refl _ _⟩
  · refine (grow_grow (some ⟨bh, 0, none⟩) l c n (cs.map fun x : Nat => Value.int .u64 (x : Int)) w hlc (by omega) (by omega) (by simp [hr.csl]) (by intro h; cases h) ?_).mono ?_
    · intro a ha j v hj
      cases ha
      simp only [List.getElem?_map, Option.map_eq_some_iff] at hj
      obtain ⟨x, hx, rfl⟩ := hj
      have hlt : j < cs.length := by
        rcases Nat.lt_or_ge j cs.length with h | h
        · exact h
        · rw [List.getElem?_eq_none h] at hx; cases hx
      have := hr.row j (by rw [← hr.csl]; exact hlt)
      simp only [List.getD_eq_getElem?_getD, hx, Option.getD_some] at this
      simpa [Addr.add] using (by rcases j with _ | j <;> simpa [Addr.add] using this : w.cell? (Addr.add ⟨bh, 0, none⟩ j) = some (.int .u64 (x : Int)))
    · rintro e w' ⟨rfl, hw⟩
      subst w'
      have hG := grownCap_ge w (l + n) c 30
      have hG2 := grownCap_le_maxLen w (l + n) c 30 (by unfold maxLen; omega)
      unfold maxLen at hG2
      refine ⟨w.heap.size, _, cs ++ List.replicate (l + n - c + (grownCap w (l + n) c 30 - (l + n))) 0, rfl, ?_, hG, ?_, .inr rfl, ?_⟩
      · rw [grown_cells]
        exact row_new w.drew _ _ (by simp [hr.csl]; omega) hG2
      · intro j hj
        have h2 := hr.csl
        simp only [List.getD_eq_getElem?_getD]
        rw [List.getElem?_append_left (by omega)]
      · exact (Kept.refl _ w).drew.alloc _

theorem grow_nil (n : Nat) (w : World) (hn : 1 ≤ n) (hb : n ≤ 1000000) :
    Calls Ybad.prog 7 #[.slice none 0 0, .int .i64 n] w fun e w' => Grown' w w' 0 n [] (fun _ => False) e := by
  refine (grow_grow none 0 0 n [] w (Nat.le_refl _) (by omega) (by omega) rfl (fun _ => rfl) (by intro a h; cases h)).mono ?_
  rintro e w' ⟨rfl, hw⟩
  subst w'
  have hG := grownCap_ge w (0 + n) 0 30
  have hG2 := grownCap_le_maxLen w (0 + n) 0 30 (by unfold maxLen; omega)
  unfold maxLen at hG2
  refine ⟨w.heap.size, _, List.replicate (0 + n - 0 + (grownCap w (0 + n) 0 30 - (0 + n))) 0, rfl, ?_, hG, fun j hj => by omega, .inr rfl, (Kept.refl _ w).drew.alloc _⟩
  have e := grown_cells [] (0 + n - 0) (grownCap w (0 + n) 0 30 - (0 + n))
  simp only [List.map_nil, List.nil_append] at e
  rw [e]
  exact row_new w.drew _ _ (by rw [List.length_replicate]; omega) hG2
end Go.Proofs.YbulkaqnyDoor

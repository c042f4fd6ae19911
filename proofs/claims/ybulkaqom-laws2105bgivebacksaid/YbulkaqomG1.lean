/-
  buckets.giveBack.
-/
import Derived.Test.YbulkaqomG0
namespace Go.Proofs.Ybulkaqom
open Go.RowKit Go.ChangeMaps

set_option maxRecDepth 100000 in
set_option maxHeartbeats 800000 in
theorem give_zero (B : Nat) (p : Value) (ol k : Bool) (mn mh ml mx : Int) (w : World)
    (HF : Calls Yba.prog 20 #[.pointer (some ⟨B, 17, none⟩), .string kk] (w.alloc (.cells #[.int .i64 mn, .int .u64 mh, .int .u64 ml, .int .i64 mx] 62)) fun e w' => e = .returned (.tuple #[p, .bool ol, .bool k]) ∧ w' = (w.alloc (.cells #[.int .i64 mn, .int .u64 mh, .int .u64 ml, .int .i64 mx] 62))) :
    Calls Yba.prog 17 #[.pointer (some ⟨B, 0, none⟩), .string kk, .int .u64 0, .agg #[.int .i64 mn, .int .u64 mh, .int .u64 ml, .int .i64 mx], .int .i64 0] w fun e w' => e = .returned (.tuple #[]) ∧ Below w.heap.size w w' := by
  go_enter Yba.func17, Yba.ntmps17
  go_wp2_with fail
  refine HF.mono ?_
  rintro e w1 ⟨rfl, hw1⟩
  subst w1
  go_wp2_with fail
  go_quiet (fail)
  go_wp2_with fail
  first | go_end0 | refine bodyPost_ret (results_none rfl _ _ _) rfl ?_
  exact ⟨rfl, below_drewN ((Below.refl w.heap.size w).alloc (Nat.le_refl _) _) _⟩

set_option maxRecDepth 100000 in
set_option maxHeartbeats 800000 in
theorem give_other (B r2 hb : Nat) (ol : Bool) (sp : Nat) (n mn mh ml mx : Int) (w : World) (hsp : ((sp : Int) == 0) = false) (hne : (n == mn) = false)
    (c0 : w.cell? ⟨hb, 0, none⟩ = some (.int .i64 n)) (hH : HeldAt w B r2 ol) (hh : Has w r2 (.pointer (some ⟨hb, 0, none⟩))) :
    Calls Yba.prog 17 #[.pointer (some ⟨B, 0, none⟩), .string kk, .int .u64 sp, .agg #[.int .i64 mn, .int .u64 mh, .int .u64 ml, .int .i64 mx], .int .i64 0] w fun e w' => e = .returned (.tuple #[]) ∧ Below w.heap.size w w' := by
  have hbA : Below w.heap.size w (w.alloc (.cells #[.int .i64 mn, .int .u64 mh, .int .u64 ml, .int .i64 mx] 62)) := (Below.refl w.heap.size w).alloc (Nat.le_refl _) _
  have k : Kept Nothing w (w.alloc (.cells #[.int .i64 mn, .int .u64 mh, .int .u64 ml, .int .i64 mx] 62)) := Kept.of_below hbA
  have HF := hfind_any B r2 ol _ _ (hH.kept k (fun x => x) (fun x => x)) (hh.kept k (fun _ x => x))
  have hlt : hb < w.heap.size := lt_of_cell c0
  clear hH hh k
  go_enter Yba.func17, Yba.ntmps17
  go_wp2_with fail
  refine HF.mono ?_
  rintro e w1 ⟨rfl, hw1⟩
  subst w1
  clear HF
  go_wp2_with fail
  go_quiet (fail)
  go_wp2_with fail
  first | go_end0 | refine bodyPost_ret (results_none rfl _ _ _) rfl ?_
  exact ⟨rfl, below_drewN hbA _⟩
end Go.Proofs.Ybulkaqom

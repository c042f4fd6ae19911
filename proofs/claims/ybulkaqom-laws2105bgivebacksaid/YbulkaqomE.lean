/-
  uint128 ==.
-/
import Derived.Test.YbulkaqomU
import Derived.OwnWalk
import Derived.LaidEqlPtr
namespace Go.Proofs.Ybulkaqom
open Go.RowKit

theorem eql_words (a b c d : Int) (w : World) : (Go.binOp .eql 46 (.agg #[.int .u64 a, .int .u64 b]) (.agg #[.int .u64 c, .int .u64 d])).run Yba.prog w = .ok (.bool (decide (a = c) && decide (b = d))) w := by
  by_cases h1 : a = c <;> by_cases h2 : b = d <;> simp [go_sem, h1, h2]

theorem info58 : (Yba.prog.info? 58).map (fun i => (i.zero, i.size, i.bytes)) = some (some (.agg #[.int .i64 0, .int .u64 0, .int .u64 0, .int .i64 0, .int .i64 0]), 5, 40) := by kernel_rfl
/-- A pointer is itself. -/
theorem eql_same (W : World) (a : Addr) : (Go.binOp .eql 56 (.pointer (some a)) (.pointer (some a))).run Yba.prog W = .ok (.bool true) W := by
  obtain ⟨i0, hi0, _⟩ := info_parts info58
  have h : ∀ d : Nat, (Op.equalIn (d + 1) 56 (.pointer (some a)) (.pointer (some a))).run Yba.prog W = .ok true W := fun d => by
    simp [Op.equalIn, run_underlying Yba.underlying56, sizeOf, typeInfo, hi0, run_sameAddr_same]
  simp only [Go.binOp]
  simp [Op.equal, Op.maxDepth, h 9999]
end Go.Proofs.Ybulkaqom

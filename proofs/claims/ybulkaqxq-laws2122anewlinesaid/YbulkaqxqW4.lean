/-
  LawS2122ANewline at a long input. Own work on this program.
-/
import Derived.Test.YbulkaqxqW3
namespace Go.Proofs.Ybulkaqxq
open Go Go.RowKit

set_option maxRecDepth 100000 in
theorem law_long (src : ByteArray) (at_ len cap : Nat) (av : Option Addr) (w : World) (h : 1024 < src.size ∨ 1024 < len) (h1 : src.size ≤ 9223372036854775807) (h2 : len ≤ 9223372036854775807) :
    Calls Yba.prog 3 #[.string src, .int .u64 at_, .slice av len cap] w fun e w' => e = .returned (.bool true) ∧ Below w.heap.size w w' := by
  by_cases hs : 1024 < src.size
  · have hd : decide ((1024 : Int) < (src.size : Int)) = true := by simp; omega
    go_enter Yba.func3, Yba.ntmps3
    go_wp2_with fail
    go_ret
    exact ⟨rfl, Below.refl _ _⟩
  · have hl : 1024 < len := by omega
    have hd : decide ((1024 : Int) < (src.size : Int)) = false := by simp; omega
    have hd2 : decide ((1024 : Int) < (len : Int)) = true := by simp; omega
    go_enter Yba.func3, Yba.ntmps3
    go_wp2_with fail
    go_ret
    exact ⟨rfl, Below.refl _ _⟩
end Go.Proofs.Ybulkaqxq

/-
  LawS2105BGiveBack at every input.
-/
import Derived.Test.YbulkaqomB1
namespace Go.Proofs.Ybulkaqom
open Go.RowKit Go.ChangeMaps

theorem xor_low (lat : Int) (h0 : -9223372036854775808 ≤ lat) (h1 : lat ≤ 9223372036854775807) : bits .xor .u64 (IntKind.u64.wrap lat) 9223372036854775808 = lat + 9223372036854775808 := by
  have hw : 0 ≤ IntKind.u64.wrap lat ∧ IntKind.u64.wrap lat < 18446744073709551616 := by rw [IntKind.wrap_u64]; omega
  have hx := u64_xor (IntKind.u64.wrap lat) 9223372036854775808 hw.1 hw.2 (by omega) (by omega)
  have e : ((9223372036854775808 : Int)).toNat = 9223372036854775808 := rfl
  rw [e, xor63 _ (by omega)] at hx
  have hk : IntKind.u64.wrap lat = lat % 18446744073709551616 := IntKind.wrap_u64 _
  refine hx.trans ?_
  split <;> omega

theorem give_all (sp p la gap ex si op : Nat) (n : Int) (wh ol mis : Bool) (w : World) (h0 : (sp : Int) ≤ 4294967295) (h1 : (p : Int) ≤ 65535) (h2 : (la : Int) ≤ 4294967295) (h3 : (gap : Int) ≤ 4294967295) (h4 : (ex : Int) ≤ 4294967295) (h5 : (si : Int) ≤ 4294967295) (h6 : (op : Int) ≤ 255) :
    Calls Yba.prog 5 #[.int .u32 sp, .int .u16 p, .int .u32 la, .int .u32 gap, .int .u32 ex, .int .u32 si, .int .u8 op, .int .i64 n, .bool wh, .bool ol, .bool mis] w fun e w' => e = .returned (.bool true) ∧ Below w.heap.size w w' := by
  have hT : 0 ≤ (sp : Int) * ((p + 1 : Nat) : Int) ∧ (sp : Int) * ((p + 1 : Nat) : Int) ≤ 281474976710656 := by
    refine ⟨Int.mul_nonneg (by omega) (by omega), ?_⟩
    have h := Int.mul_le_mul (show (sp : Int) ≤ 4294967296 by omega) (show ((p + 1 : Nat) : Int) ≤ 65536 by omega) (by omega) (by omega)
    omega
  obtain ⟨T, eT⟩ : ∃ T, T = (sp : Int) * ((p + 1 : Nat) : Int) := ⟨_, rfl⟩
  rw [← eT] at hT
  have wT : IntKind.u64.wrap ((sp : Int) * ((p + 1 : Nat) : Int)) = T := by rw [← eT, IntKind.wrap_u64]; omega
  have hx := xor_low (-(la : Int) - 1) (by omega) (by omega)
  have wf : IntKind.u64.wrap ((-(la : Int) - 1 + 9223372036854775808) + gap) = (-(la : Int) - 1 + 9223372036854775808) + gap := by rw [IntKind.wrap_u64]; omega
  have wm : IntKind.u64.wrap (T + ex) = T + ex := by rw [IntKind.wrap_u64]; omega
  have wh' : IntKind.u64.wrap (T + ex + si) = T + ex + si := by rw [IntKind.wrap_u64]; omega
  have b1 : 0 ≤ T ∧ T < 9223372036854775808 := by omega
  have b2 : -4294967296 ≤ -(la : Int) - 1 ∧ -(la : Int) - 1 ≤ -1 := by omega
  exact give_law sp p la gap ex si op (p + 1) n _ _ _ T _ _ wh ol mis w h0 h1 h2 h3 h4 h5 h6 (by omega) rfl hx wf wT wm wh' rfl rfl eT rfl rfl b1 b2
end Go.Proofs.Ybulkaqom

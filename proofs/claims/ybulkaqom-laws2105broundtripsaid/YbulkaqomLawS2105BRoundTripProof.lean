/-
  'Rows.LawS2105BRoundTripSaid': the frame by the kit's proof-skeleton, the walk filled in.
-/
import Derived.Test.YbulkaqomR5
import Derived.Below
import Derived.WalkKit
import Derived.ProofKit
import Derived.OpenShut
import Derived.ShutString
namespace Go.Proofs.Ybulkaqom.lawS2105BRoundTrip
open Go.ChangeShapes Go.WideShapes Go.ChangeAt Go.RowKit
open Go.ChangeMaps (open_string shut_string)
set_option linter.unusedVariables false      -- a walk need not use every 'w<i>' (that an integer argument fits its kind)

theorem own : ownKnob Yba.prog.godebug = none := by kernel_rfl

theorem walk (a0 : Int) (a1 : Int) (a2 : Int) (a3 : Int) (a4 : Int) (w0 : (Lit.int .u8 a0).wf = true) (w1 : (Lit.int .u16 a1).wf = true) (w2 : (Lit.int .i64 a2).wf = true) (w3 : (Lit.int .u32 a3).wf = true) (w4 : (Lit.int .u32 a4).wf = true) (w : World) :
    Calls Yba.prog 6 #[.int .u8 a0, .int .u16 a1, .int .i64 a2, .int .u32 a3, .int .u32 a4] w fun e w' => e = .returned (.bool true) ∧ Below w.heap.size w w' := by
  obtain ⟨p0, q0⟩ := bounds_u8 w0
  obtain ⟨p1, q1⟩ := bounds_u16 w1
  obtain ⟨p2, q2⟩ := bounds_i64 w2
  obtain ⟨p3, q3⟩ := bounds_u32 w3
  obtain ⟨p4, q4⟩ := bounds_u32 w4
  obtain ⟨n0, rfl⟩ := Int.eq_ofNat_of_zero_le p0
  obtain ⟨n1, rfl⟩ := Int.eq_ofNat_of_zero_le p1
  obtain ⟨n3, rfl⟩ := Int.eq_ofNat_of_zero_le p3
  obtain ⟨n4, rfl⟩ := Int.eq_ofNat_of_zero_le p4
  have hL : 0 ≤ (a2 + 9223372036854775808) * ((n0 + 1 : Nat) : Int) ∧ (a2 + 9223372036854775808) * ((n0 + 1 : Nat) : Int) ≤ 4722366482869645213696 := by
    refine ⟨Int.mul_nonneg (by omega) (by omega), ?_⟩
    have h := Int.mul_le_mul (show a2 + 9223372036854775808 ≤ 18446744073709551616 by omega) (show ((n0 + 1 : Nat) : Int) ≤ 256 by omega) (by omega) (by omega)
    omega
  have hT : ∀ n : Nat, (n : Int) ≤ 4294967295 → 0 ≤ (n : Int) * ((n1 + 1 : Nat) : Int) ∧ (n : Int) * ((n1 + 1 : Nat) : Int) ≤ 281474976710656 := fun n hn => by
    refine ⟨Int.mul_nonneg (by omega) (by omega), ?_⟩
    have h := Int.mul_le_mul (show (n : Int) ≤ 4294967296 by omega) (show ((n1 + 1 : Nat) : Int) ≤ 65536 by omega) (by omega) (by omega)
    omega
  have h3 := hT n3 (by omega)
  have h4 := hT n4 (by omega)
  by_cases hz : n4 = 0
  · subst hz
    exact round_zero n0 n1 n3 (n0 + 1) (n1 + 1) a2 _ _ w (by omega) (by omega) (by omega) (by omega) (by omega) (by omega) (by omega) rfl rfl ⟨hL.1, h3.1, hL.2, h3.2⟩
  · have h5 : 1 ≤ (n4 : Int) * ((n1 + 1 : Nat) : Int) := by
      have h := Int.mul_le_mul (show (1 : Int) ≤ (n4 : Int) by omega) (show (1 : Int) ≤ ((n1 + 1 : Nat) : Int) by omega) (by omega) (by omega)
      omega
    exact round_main n0 n1 n3 n4 (n0 + 1) (n1 + 1) a2 _ _ _ w (by omega) (by omega) (by omega) (by omega) (by omega) (by omega) (by omega) rfl rfl rfl (by simpa using hz) (by omega) ⟨hL.1, h3.1, hL.2, h3.2⟩ ⟨h5, h4.2⟩

/-! ### THE ROW's STEP: WRITTEN OUT: LEAVE IT -/
set_option maxRecDepth 100000 in
theorem lifted (os : Os) (started : os.Started) (H : Type) (enc : TypeId × Value → H) :
    ReturnsInHanded {} Yba.checked os 6 .any (Rows.lawS2105BRoundTripSpec.pre6 enc Yba.prog Yba.f6 Rows.lawS2105BRoundTripRow.domain false) (Rows.lawS2105BRoundTripSpec.post enc Yba.prog Yba.f6 false true false false) := by
  refine returnsInHanded_of_change (C := Yba.checked) own started (by kernel_rfl) Yba.func6
    (ChangeSpec.witness6 (enc := enc) (C := Yba.checked) false ⟨#[], #[.int .u8 0, .int .u16 0, .int .i64 0, .int .u32 0, .int .u32 0], []⟩ 8 (by kernel_rfl) (by kernel_rfl) (by kernel_rfl) (by kernel_rfl)) ?_
  intro W base args ds gs before hval0 hW hcnd _
  have hval : ∀ (j : Nat) t v, Yba.f6.params[j]? = some t → args[j]? = some v → Value.okWide Yba.prog W .any base t v := hval0
  have hW' := hW
  obtain ⟨p, q, hA0, hV, rfl, hfz, hnd⟩ := hW
  have hA : DataW.TrodAll enc Yba.prog W 0 (fun _ => true) true Yba.f6.params.toList args.toList ds p := hA0
  rw [Yba.params6] at hA hval
  obtain ⟨v0, vs0, d0, ds0, p0, q0, hargs, rfl, rfl, h0, r0⟩ := trodAll_cons hA
  obtain ⟨v1, vs1, d1, ds1, p1, q1, rfl, rfl, rfl, h1, r1⟩ := trodAll_cons r0
  obtain ⟨v2, vs2, d2, ds2, p2, q2, rfl, rfl, rfl, h2, r2⟩ := trodAll_cons r1
  obtain ⟨v3, vs3, d3, ds3, p3, q3, rfl, rfl, rfl, h3, r3⟩ := trodAll_cons r2
  obtain ⟨v4, vs4, d4, ds4, p4, q4, rfl, rfl, rfl, h4, r4⟩ := trodAll_cons r3
  obtain ⟨rfl, rfl, rfl⟩ := trodAll_nil r4
  obtain rfl : args = #[v0, v1, v2, v3, v4] := by cases args; simp_all
  obtain ⟨rfl, rfl⟩ := trodVars_none hV
  obtain ⟨a0, rfl, rfl, rfl, w0⟩ := open_int Yba.underlying5 (hval 0 5 v0 rfl rfl) h0
  obtain ⟨a1, rfl, rfl, rfl, w1⟩ := open_int Yba.underlying33 (hval 1 33 v1 rfl rfl) h1
  obtain ⟨a2, rfl, rfl, rfl, w2⟩ := open_int Yba.underlying2 (hval 2 2 v2 rfl rfl) h2
  obtain ⟨a3, rfl, rfl, rfl, w3⟩ := open_int Yba.underlying32 (hval 3 32 v3 rfl rfl) h3
  obtain ⟨a4, rfl, rfl, rfl, w4⟩ := open_int Yba.underlying32 (hval 4 32 v4 rfl rfl) h4
  clear hA0 hval0
  refine (walk a0 a1 a2 a3 a4 w0 w1 w2 w3 w4 W).mono fun e W' ⟨he, bel⟩ => ?_
  subst he
  exact ⟨_, rfl, _, _, _, [], _, [], hW', trodAll_mk1 (shut_bool Yba.underlying4 _), (trodAll_cons_mk (shut_int Yba.underlying5 w0) (trodAll_cons_mk (shut_int Yba.underlying33 w1) (trodAll_cons_mk (shut_int Yba.underlying2 w2) (trodAll_cons_mk (shut_int Yba.underlying32 w3) (trodAll_cons_mk (shut_int Yba.underlying32 w4) trodAll_mk0))))), rfl, bel.frame _, fun h => by cases h⟩

theorem over : Rows.lawS2105BRoundTripRow.holds Yba.pinned (OpenSpec.ofChange Rows.lawS2105BRoundTripSpec) :=
  OpenClaim.holds_of_wide 6 Yba.f6 rfl rfl rfl rfl rfl rfl rfl ⟨rfl, rfl, rfl, rfl, rfl⟩ rfl rfl rfl rfl rfl (by kernel_rfl) Yba.func6 (by kernel_rfl)
    (of_decide_eq_true (by kernel_rfl)) (by unfold Func.isWrapper; first | (rw [if_pos (by decide +kernel)]; kernel_rfl) | (rw [if_neg (by decide +kernel)]; exact ⟨rfl, rfl⟩))
    (fun os started H enc _ => lifted os started H enc)

/-- ████ THE STATEMENT ████ -/
theorem proved : Rows.LawS2105BRoundTripSaid :=
  over
end Go.Proofs.Ybulkaqom.lawS2105BRoundTrip

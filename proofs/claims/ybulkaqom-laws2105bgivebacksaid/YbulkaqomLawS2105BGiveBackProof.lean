/-
  'Rows.LawS2105BGiveBackSaid': the frame by the kit's proof-skeleton, the walk filled in.
-/
import Derived.Test.YbulkaqomBZ
import Derived.Below
import Derived.WalkKit
import Derived.ProofKit
import Derived.OpenShut
import Derived.ShutString
namespace Go.Proofs.Ybulkaqom.lawS2105BGiveBack
open Go.ChangeShapes Go.WideShapes Go.ChangeAt Go.RowKit
open Go.ChangeMaps (open_string shut_string)
set_option linter.unusedVariables false      -- a walk need not use every 'w<i>' (that an integer argument fits its kind)

theorem own : ownKnob Yba.prog.godebug = none := by kernel_rfl

theorem walk (a0 : Int) (a1 : Int) (a2 : Int) (a3 : Int) (a4 : Int) (a5 : Int) (a6 : Int) (a7 : Int) (a8 : Bool) (a9 : Bool) (a10 : Bool) (w0 : (Lit.int .u32 a0).wf = true) (w1 : (Lit.int .u16 a1).wf = true) (w2 : (Lit.int .u32 a2).wf = true) (w3 : (Lit.int .u32 a3).wf = true) (w4 : (Lit.int .u32 a4).wf = true) (w5 : (Lit.int .u32 a5).wf = true) (w6 : (Lit.int .u8 a6).wf = true) (w : World) :
    Calls Yba.prog 5 #[.int .u32 a0, .int .u16 a1, .int .u32 a2, .int .u32 a3, .int .u32 a4, .int .u32 a5, .int .u8 a6, .int .i64 a7, .bool a8, .bool a9, .bool a10] w fun e w' => e = .returned (.bool true) ∧ Below w.heap.size w w' := by
  obtain ⟨p0, q0⟩ := bounds_u32 w0
  obtain ⟨p1, q1⟩ := bounds_u16 w1
  obtain ⟨p2, q2⟩ := bounds_u32 w2
  obtain ⟨p3, q3⟩ := bounds_u32 w3
  obtain ⟨p4, q4⟩ := bounds_u32 w4
  obtain ⟨p5, q5⟩ := bounds_u32 w5
  obtain ⟨p6, q6⟩ := bounds_u8 w6
  obtain ⟨n0, rfl⟩ := Int.eq_ofNat_of_zero_le p0
  obtain ⟨n1, rfl⟩ := Int.eq_ofNat_of_zero_le p1
  obtain ⟨n2, rfl⟩ := Int.eq_ofNat_of_zero_le p2
  obtain ⟨n3, rfl⟩ := Int.eq_ofNat_of_zero_le p3
  obtain ⟨n4, rfl⟩ := Int.eq_ofNat_of_zero_le p4
  obtain ⟨n5, rfl⟩ := Int.eq_ofNat_of_zero_le p5
  obtain ⟨n6, rfl⟩ := Int.eq_ofNat_of_zero_le p6
  exact give_all n0 n1 n2 n3 n4 n5 n6 a7 a8 a9 a10 w (by omega) (by omega) (by omega) (by omega) (by omega) (by omega) (by omega)

/-! ### THE ROW's STEP: WRITTEN OUT: LEAVE IT -/
set_option maxRecDepth 100000 in
theorem lifted (os : Os) (started : os.Started) (H : Type) (enc : TypeId × Value → H) :
    ReturnsInHanded {} Yba.checked os 5 .any (Rows.lawS2105BGiveBackSpec.pre6 enc Yba.prog Yba.f5 Rows.lawS2105BGiveBackRow.domain false) (Rows.lawS2105BGiveBackSpec.post enc Yba.prog Yba.f5 false true false false) := by
  refine returnsInHanded_of_change (C := Yba.checked) own started (by kernel_rfl) Yba.func5
    (ChangeSpec.witness6 (enc := enc) (C := Yba.checked) false ⟨#[], #[.int .u32 0, .int .u16 0, .int .u32 0, .int .u32 0, .int .u32 0, .int .u32 0, .int .u8 0, .int .i64 0, .bool false, .bool false, .bool false], []⟩ 8 (by kernel_rfl) (by kernel_rfl) (by kernel_rfl) (by kernel_rfl)) ?_
  intro W base args ds gs before hval0 hW hcnd _
  have hval : ∀ (j : Nat) t v, Yba.f5.params[j]? = some t → args[j]? = some v → Value.okWide Yba.prog W .any base t v := hval0
  have hW' := hW
  obtain ⟨p, q, hA0, hV, rfl, hfz, hnd⟩ := hW
  have hA : DataW.TrodAll enc Yba.prog W 0 (fun _ => true) true Yba.f5.params.toList args.toList ds p := hA0
  rw [Yba.params5] at hA hval
  obtain ⟨v0, vs0, d0, ds0, p0, q0, hargs, rfl, rfl, h0, r0⟩ := trodAll_cons hA
  obtain ⟨v1, vs1, d1, ds1, p1, q1, rfl, rfl, rfl, h1, r1⟩ := trodAll_cons r0
  obtain ⟨v2, vs2, d2, ds2, p2, q2, rfl, rfl, rfl, h2, r2⟩ := trodAll_cons r1
  obtain ⟨v3, vs3, d3, ds3, p3, q3, rfl, rfl, rfl, h3, r3⟩ := trodAll_cons r2
  obtain ⟨v4, vs4, d4, ds4, p4, q4, rfl, rfl, rfl, h4, r4⟩ := trodAll_cons r3
  obtain ⟨v5, vs5, d5, ds5, p5, q5, rfl, rfl, rfl, h5, r5⟩ := trodAll_cons r4
  obtain ⟨v6, vs6, d6, ds6, p6, q6, rfl, rfl, rfl, h6, r6⟩ := trodAll_cons r5
  obtain ⟨v7, vs7, d7, ds7, p7, q7, rfl, rfl, rfl, h7, r7⟩ := trodAll_cons r6
  obtain ⟨v8, vs8, d8, ds8, p8, q8, rfl, rfl, rfl, h8, r8⟩ := trodAll_cons r7
  obtain ⟨v9, vs9, d9, ds9, p9, q9, rfl, rfl, rfl, h9, r9⟩ := trodAll_cons r8
  obtain ⟨v10, vs10, d10, ds10, p10, q10, rfl, rfl, rfl, h10, r10⟩ := trodAll_cons r9
  obtain ⟨rfl, rfl, rfl⟩ := trodAll_nil r10
  obtain rfl : args = #[v0, v1, v2, v3, v4, v5, v6, v7, v8, v9, v10] := by cases args; simp_all
  obtain ⟨rfl, rfl⟩ := trodVars_none hV
  obtain ⟨a0, rfl, rfl, rfl, w0⟩ := open_int Yba.underlying32 (hval 0 32 v0 rfl rfl) h0
  obtain ⟨a1, rfl, rfl, rfl, w1⟩ := open_int Yba.underlying33 (hval 1 33 v1 rfl rfl) h1
  obtain ⟨a2, rfl, rfl, rfl, w2⟩ := open_int Yba.underlying32 (hval 2 32 v2 rfl rfl) h2
  obtain ⟨a3, rfl, rfl, rfl, w3⟩ := open_int Yba.underlying32 (hval 3 32 v3 rfl rfl) h3
  obtain ⟨a4, rfl, rfl, rfl, w4⟩ := open_int Yba.underlying32 (hval 4 32 v4 rfl rfl) h4
  obtain ⟨a5, rfl, rfl, rfl, w5⟩ := open_int Yba.underlying32 (hval 5 32 v5 rfl rfl) h5
  obtain ⟨a6, rfl, rfl, rfl, w6⟩ := open_int Yba.underlying5 (hval 6 5 v6 rfl rfl) h6
  obtain ⟨a7, rfl, rfl, rfl, w7⟩ := open_int Yba.underlying2 (hval 7 2 v7 rfl rfl) h7
  obtain ⟨a8, rfl, rfl, rfl⟩ := open_bool Yba.underlying4 (hval 8 4 v8 rfl rfl) h8
  obtain ⟨a9, rfl, rfl, rfl⟩ := open_bool Yba.underlying4 (hval 9 4 v9 rfl rfl) h9
  obtain ⟨a10, rfl, rfl, rfl⟩ := open_bool Yba.underlying4 (hval 10 4 v10 rfl rfl) h10
  clear hA0 hval0
  refine (walk a0 a1 a2 a3 a4 a5 a6 a7 a8 a9 a10 w0 w1 w2 w3 w4 w5 w6 W).mono fun e W' ⟨he, bel⟩ => ?_
  subst he
  exact ⟨_, rfl, _, _, _, [], _, [], hW', trodAll_mk1 (shut_bool Yba.underlying4 _), (trodAll_cons_mk (shut_int Yba.underlying32 w0) (trodAll_cons_mk (shut_int Yba.underlying33 w1) (trodAll_cons_mk (shut_int Yba.underlying32 w2) (trodAll_cons_mk (shut_int Yba.underlying32 w3) (trodAll_cons_mk (shut_int Yba.underlying32 w4) (trodAll_cons_mk (shut_int Yba.underlying32 w5) (trodAll_cons_mk (shut_int Yba.underlying5 w6) (trodAll_cons_mk (shut_int Yba.underlying2 w7) (trodAll_cons_mk (shut_bool Yba.underlying4 _) (trodAll_cons_mk (shut_bool Yba.underlying4 _) (trodAll_cons_mk (shut_bool Yba.underlying4 _) trodAll_mk0))))))))))), rfl, bel.frame _, fun h => by cases h⟩

theorem over : Rows.lawS2105BGiveBackRow.holds Yba.pinned (OpenSpec.ofChange Rows.lawS2105BGiveBackSpec) :=
  OpenClaim.holds_of_wide 5 Yba.f5 rfl rfl rfl rfl rfl rfl rfl ⟨rfl, rfl, rfl, rfl, rfl⟩ rfl rfl rfl rfl rfl (by kernel_rfl) Yba.func5 (by kernel_rfl)
    (of_decide_eq_true (by kernel_rfl)) (by unfold Func.isWrapper; first | (rw [if_pos (by decide +kernel)]; kernel_rfl) | (rw [if_neg (by decide +kernel)]; exact ⟨rfl, rfl⟩))
    (fun os started H enc _ => lifted os started H enc)

/-- ████ THE STATEMENT ████ -/
theorem proved : Rows.LawS2105BGiveBackSaid :=
  over
end Go.Proofs.Ybulkaqom.lawS2105BGiveBack

/-
  'Rows.LawS2122ANewlineSaid'.
-/
import Derived.Test.YbulkaqxqW4
import Derived.ProofKit
import Derived.OpenShut
import Derived.ShutString
import Derived.ChangeMaps5
import Derived.SliceStrings
import Derived.Below
namespace Go.Proofs.Ybulkaqxq.lawS2122ANewline
open Go.ChangeShapes Go.WideShapes Go.ChangeAt Go.RowKit Go.ChangeMaps
set_option linter.unusedVariables false

theorem own : ownKnob Yba.prog.godebug = none := by kernel_rfl
theorem laidOut : laidOutB Yba.prog = true := by kernel_rfl

theorem walk (src : ByteArray) (a1 : Int) (a2 : Option Addr) (len cap : Nat) (ss : List ByteArray) (w : World) (hs : src.size ≤ maxLen) (h0 : 0 ≤ a1) (h1 : a1 < 18446744073709551616) (hm : len ≤ maxLen) (hl : len ≤ ss.length)
    (hcell : 0 < len → ∃ ad : Addr, a2 = some ad ∧ ∀ i, i < len → w.cell? (ad.add i) = some (.string (ss.getD i ByteArray.empty))) :
    Calls Yba.prog 3 #[.string src, .int .u64 a1, .slice a2 len cap] w fun e w' => e = .returned (.bool true) ∧ Below w.heap.size w w' := by
  unfold maxLen at hs hm
  obtain ⟨n, rfl⟩ := Int.eq_ofNat_of_zero_le h0
  by_cases hbig : 1024 < src.size ∨ 1024 < len
  · exact law_long src n len cap a2 w hbig hs hm
  · refine law_walk src n len cap (n % (src.size + 1)) a2 (ss.take len) w (by simp; omega) (by omega) (by omega) (by omega) rfl (fun hp => ?_)
    obtain ⟨ad, e, hc⟩ := hcell hp
    refine ⟨ad, e, ?_, fun i hi => ?_⟩
    · have := World.block_lt_of_cell? w _ (hc 0 hp)
      rw [addr_block] at this
      exact this
    · rw [hc i hi]
      congr 2
      simp [List.getD, hi]

set_option maxRecDepth 100000 in
theorem lifted (os : Os) (started : os.Started) (H : Type) (enc : TypeId × Value → H) :
    ReturnsInHanded {} Yba.checked os 3 .any (Rows.lawS2122ANewlineSpec.pre6 enc Yba.prog Yba.f3 Rows.lawS2122ANewlineRow.domain false) (Rows.lawS2122ANewlineSpec.post enc Yba.prog Yba.f3 false true false false) := by
  refine returnsInHanded_of_change (C := Yba.checked) own started (by kernel_rfl) Yba.func3
    (ChangeSpec.witness6 (enc := enc) (C := Yba.checked) false ⟨#[], #[.string ByteArray.empty, .int .u64 0, .slice none 0 0], []⟩ 8 (by kernel_rfl) (by kernel_rfl) (by kernel_rfl) (by kernel_rfl)) ?_
  intro W base args ds gs before hval0 hW hcnd _
  have hval : ∀ (j : Nat) t v, Yba.f3.params[j]? = some t → args[j]? = some v → Value.okWide Yba.prog W .any base t v := hval0
  have hW' := hW
  obtain ⟨p, q, hA0, hV, rfl, hfz, hnd⟩ := hW
  have hA : DataW.TrodAll enc Yba.prog W 0 (fun _ => true) true Yba.f3.params.toList args.toList ds p := hA0
  rw [Yba.params3] at hA hval
  obtain ⟨v0, vs0, d0, ds0, p0, q0, hargs, rfl, rfl, h0, r0⟩ := trodAll_cons hA
  obtain ⟨v1, vs1, d1, ds1, p1, q1, rfl, rfl, rfl, h1, r1⟩ := trodAll_cons r0
  obtain ⟨v2, vs2, d2, ds2, p2, q2, rfl, rfl, rfl, h2, r2⟩ := trodAll_cons r1
  obtain ⟨rfl, rfl, rfl⟩ := trodAll_nil r2
  obtain rfl : args = #[v0, v1, v2] := by cases args; simp_all
  obtain ⟨rfl, rfl⟩ := trodVars_none hV
  obtain ⟨s0, rfl, rfl, rfl, ws0⟩ := open_string Yba.underlying9 (hval 0 9 v0 rfl rfl) h0
  obtain ⟨a1, rfl, rfl, rfl, w1⟩ := open_int Yba.underlying22 (hval 1 22 v1 rfl rfl) h1
  obtain ⟨a2, len2, cap2, rfl⟩ := okWide_slice Yba.underlying23 (hval 2 23 v2 rfl rfl)
  have k2 := h2
  have lt2 : ∀ x ∈ p2, x.block < W.heap.size := by obtain ⟨m, hm⟩ := k2; exact DataW.trod_lt m _ _ _ hm
  have hrow : ∃ ss : List ByteArray, len2 ≤ maxLen ∧ len2 ≤ ss.length ∧ (0 < len2 → ∃ ad : Addr, a2 = some ad ∧ ∀ i, i < len2 → W.cell? (ad.add i) = some (.string (ss.getD i ByteArray.empty))) := by
    obtain ⟨fuel, hf⟩ := h2
    rcases open_strings Yba.underlying23 Yba.underlying9 (by kernel_rfl) hf with ⟨hcs, _⟩ | ⟨x, l, c, ss, hcs, _, hl, hm, hz, _, hcell, _⟩
    · simp [Value.cells] at hcs
      obtain ⟨rfl, rfl, rfl⟩ := hcs
      exact ⟨[], by unfold maxLen; omega, by simp, fun h => by omega⟩
    · simp [Value.cells] at hcs
      obtain ⟨rfl, rfl, rfl⟩ := hcs
      simp only [if_true] at hz
      exact ⟨ss, by omega, by omega, fun _ => ⟨_, rfl, fun i hi => hcell i (by omega)⟩⟩
  obtain ⟨ss, hm2, hl2, hc2⟩ := hrow
  obtain ⟨b1, b2⟩ := bounds_u64 w1
  clear hA0 hval0
  refine (walk s0 a1 a2 len2 cap2 ss W ws0 b1 (by omega) hm2 hl2 hc2).mono fun e W' ⟨he, bel⟩ => ?_
  subst he
  exact ⟨_, rfl, _, _, _, [], _, [], hW', trodAll_mk1 (shut_bool Yba.underlying4 _), (trodAll_cons_mk (shut_string Yba.underlying9 ws0) (trodAll_cons_mk (shut_int Yba.underlying22 w1) (trodAll_cons_mk (Below.trod laidOut (by kernel_rfl) (of_decide_eq_true (by kernel_rfl)) k2 bel lt2) trodAll_mk0))), rfl, bel.frame _, fun h => by cases h⟩

/-- THE STATEMENT. -/
theorem proved : Rows.LawS2122ANewlineSaid :=
  OpenClaim.holds_of_wide 3 Yba.f3 rfl rfl rfl rfl rfl rfl rfl ⟨rfl, rfl, rfl, rfl, rfl⟩ rfl rfl rfl rfl rfl (by kernel_rfl) Yba.func3 (by kernel_rfl)
    (of_decide_eq_true (by kernel_rfl)) (by unfold Func.isWrapper; first | (rw [if_pos (by decide +kernel)]; kernel_rfl) | (rw [if_neg (by decide +kernel)]; exact ⟨rfl, rfl⟩))
    (fun os started H enc _ => lifted os started H enc)
end Go.Proofs.Ybulkaqxq.lawS2122ANewline

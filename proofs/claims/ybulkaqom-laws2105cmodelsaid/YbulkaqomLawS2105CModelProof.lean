/-
  'Rows.LawS2105CModelSaid'.
-/
import Derived.Test.YbulkaqomC5
import Derived.ProofKit
import Derived.OpenShut
import Derived.Deep.Slices
import Derived.Below
namespace Go.Proofs.Ybulkaqom.lawS2105CModel
open Go.ChangeShapes Go.WideShapes Go.ChangeAt Go.RowKit Go.Deep
set_option linter.unusedVariables false

theorem own : ownKnob Yba.prog.godebug = none := by kernel_rfl
theorem laidOut : laidOutB Yba.prog = true := by kernel_rfl
theorem cells78 : Yba.prog.cellsOf 78 = 4 := by kernel_rfl

theorem four {α : Type} {l : List α} (h : l.length = 4) : ∃ a b c d, l = [a, b, c, d] := by
  match l, h with
  | [a, b, c, d], _ => exact ⟨a, b, c, d, rfl⟩

/-- The slice of ages as it came in. -/
theorem ages_in {H : Type} {enc : TypeId × Value → H} {W : World} {a : Option Addr} {len cap : Nat} {d : DataW H} {p : List MemPlace} (h : DataW.Trod enc Yba.prog W 0 (fun _ => true) true 73 (.slice a len cap) d p) :
    len ≤ 9223372036854775807 ∧ (len = 0 ∨ ∃ (b off : Nat) (Hh : Nat → Int) (B : Nat → Bool) (S G : Nat → Int), a = some ⟨b, off, none⟩ ∧ b < W.heap.size ∧ ∀ i, i < len → AgeAt W b (off + i * 4) (Hh i) (B i) (S i) (G i)) := by
  obtain ⟨fuel, hf⟩ := h
  rcases open_slice Yba.underlying73 hf with ⟨hcs, _⟩ | ⟨x, l, c, m, n, D, Pl, hcs, _, hl, hm, hmm, _, hx⟩
  · simp [Value.cells] at hcs
    obtain ⟨rfl, rfl, rfl⟩ := hcs
    exact ⟨by omega, .inl rfl⟩
  · simp [Value.cells] at hcs
    obtain ⟨rfl, rfl, rfl⟩ := hcs
    unfold maxLen at hm
    refine ⟨by omega, ?_⟩
    rcases Nat.eq_zero_or_pos len with hz | hp
    · exact .inl hz
    right
    simp only [if_true] at hmm
    rw [cells78] at hx
    have each : ∀ i, i < len → ∃ q : Int × Bool × Int × Int, W.cell? (x.add (i * 4)) = some (.int .i64 q.1) ∧ W.cell? (x.add (i * 4 + 1)) = some (.bool q.2.1) ∧ W.cell? (x.add (i * 4 + 2)) = some (.int .i64 q.2.2.1) ∧ W.cell? (x.add (i * 4 + 3)) = some (.int .i64 q.2.2.2) ∧
        -9223372036854775808 ≤ q.1 ∧ q.1 ≤ 9223372036854775807 := by
      intro i hi
      obtain ⟨cs', g1, g2⟩ := hx i (by omega)
      obtain ⟨_, hlen, hcell⟩ := World.cells?_some g1
      obtain ⟨xs, k, hk, hxy, _, hxl, hfs⟩ := DataW.trod_struct Yba.underlying78 g2
      obtain ⟨y0, y1, y2, y3, rfl⟩ := four (show xs.length = 4 from hxl)
      obtain ⟨v0, v1, v2, v3, rfl⟩ := four hlen
      have f0 := hfs 0 _ rfl
      have f1 := hfs 1 _ rfl
      have f2 := hfs 2 _ rfl
      have f3 := hfs 3 _ rfl
      have c2 : Yba.prog.cellsOf 2 = 1 := by kernel_rfl
      have c4 : Yba.prog.cellsOf 4 = 1 := by kernel_rfl
      simp [c2, c4] at f0 f1 f2 f3
      obtain ⟨z0, e0, _, wf0⟩ := DataW.trod_int Yba.underlying2 f0
      obtain ⟨z2, e2, _, _⟩ := DataW.trod_int Yba.underlying2 f2
      obtain ⟨z3, e3, _, _⟩ := DataW.trod_int Yba.underlying2 f3
      obtain ⟨z1, e1, _⟩ := DataW.trod_bool Yba.underlying4 f1
      simp at e0 e1 e2 e3
      subst e0 e1 e2 e3
      have k0 := hcell 0 (by omega)
      have k1 := hcell 1 (by omega)
      have k2 := hcell 2 (by omega)
      have k3 := hcell 3 (by omega)
      rw [add_add] at k0 k1 k2 k3
      obtain ⟨b1, b2⟩ := bounds_i64 wf0
      exact ⟨(z0, z1, z2, z3), by simpa using k0, by simpa using k1, by simpa using k2, by simpa using k3, b1, b2⟩
    have h0 := (each 0 hp)
    obtain ⟨q0, hq0, _⟩ := h0
    obtain ⟨b, off, rfl⟩ := addr_plain (by simpa using hq0)
    have hlt := lt_of_cell hq0
    obtain ⟨Q, hQ⟩ := choose_lt each
    refine ⟨b, off, fun i => (Q i).1, fun i => (Q i).2.1, fun i => (Q i).2.2.1, fun i => (Q i).2.2.2, rfl, ?_, fun i hi => ?_⟩
    · rw [add_plain] at hlt
      exact hlt
    · obtain ⟨a0, a1, a2, a3, a4, a5⟩ := hQ i hi
      rw [add_plain] at a0 a1 a2 a3
      exact ⟨a0, by rw [Nat.add_assoc]; exact a1, by rw [Nat.add_assoc]; exact a2, by rw [Nat.add_assoc]; exact a3, a4, a5⟩

set_option maxRecDepth 100000 in
theorem lifted (os : Os) (started : os.Started) (H : Type) (enc : TypeId × Value → H) :
    ReturnsInHanded {} Yba.checked os 7 .any (Rows.lawS2105CModelSpec.pre6 enc Yba.prog Yba.f7 Rows.lawS2105CModelRow.domain false) (Rows.lawS2105CModelSpec.post enc Yba.prog Yba.f7 false true false false) := by
  refine returnsInHanded_of_change (C := Yba.checked) own started (by kernel_rfl) Yba.func7
    (ChangeSpec.witness6 (enc := enc) (C := Yba.checked) false ⟨#[], #[.slice none 0 0, .int .i64 0], []⟩ 8 (by kernel_rfl) (by kernel_rfl) (by kernel_rfl) (by kernel_rfl)) ?_
  intro W base args ds gs before hval0 hW hcnd _
  have hval : ∀ (j : Nat) t v, Yba.f7.params[j]? = some t → args[j]? = some v → Value.okWide Yba.prog W .any base t v := hval0
  have hW' := hW
  obtain ⟨p, q, hA0, hV, rfl, hfz, hnd⟩ := hW
  have hA : DataW.TrodAll enc Yba.prog W 0 (fun _ => true) true Yba.f7.params.toList args.toList ds p := hA0
  rw [Yba.params7] at hA hval
  obtain ⟨v0, vs0, d0, ds0, p0, q0, hargs, rfl, rfl, h0, r0⟩ := trodAll_cons hA
  obtain ⟨v1, vs1, d1, ds1, p1, q1, rfl, rfl, rfl, h1, r1⟩ := trodAll_cons r0
  obtain ⟨rfl, rfl, rfl⟩ := trodAll_nil r1
  obtain rfl : args = #[v0, v1] := by cases args; simp_all
  obtain ⟨rfl, rfl⟩ := trodVars_none hV
  obtain ⟨a0, len0, cap0, rfl⟩ := okWide_slice Yba.underlying73 (hval 0 73 v0 rfl rfl)
  obtain ⟨a1, rfl, rfl, rfl, w1⟩ := open_int Yba.underlying2 (hval 1 2 v1 rfl rfl) h1
  have k0 := h0
  have lt0 : ∀ x ∈ p0, x.block < W.heap.size := by obtain ⟨m, hm⟩ := k0; exact DataW.trod_lt m _ _ _ hm
  have walk : Calls Yba.prog 7 #[.slice a0 len0 cap0, .int .i64 a1] W fun e w' => e = .returned (.bool true) ∧ Below W.heap.size W w' := by
    obtain ⟨hlen, hz | ⟨b, off, Hh, B, S, G, rfl, hb, hin⟩⟩ := ages_in h0
    · subst hz
      exact c_zero a0 0 cap0 (fun _ => 0) (fun _ => false) (fun _ => 0) (fun _ => 0) a1 W (Nat.le_refl _)
    · rcases Nat.lt_or_ge 1024 len0 with hbig | hbig
      · exact c_long _ len0 cap0 a1 W hbig hlen
      · exact c_walk b off len0 cap0 Hh B S G a1 W hb hbig hin
  clear hA0 hval0
  refine walk.mono fun e W' ⟨he, bel⟩ => ?_
  subst he
  exact ⟨_, rfl, _, _, _, [], _, [], hW', trodAll_mk1 (shut_bool Yba.underlying4 _), (trodAll_cons_mk (Below.trod laidOut (by kernel_rfl) (of_decide_eq_true (by kernel_rfl)) k0 bel lt0) (trodAll_cons_mk (shut_int Yba.underlying2 w1) trodAll_mk0)), rfl, bel.frame _, fun h => by cases h⟩

/-- THE STATEMENT. -/
theorem proved : Rows.LawS2105CModelSaid :=
  OpenClaim.holds_of_wide 7 Yba.f7 rfl rfl rfl rfl rfl rfl rfl ⟨rfl, rfl, rfl, rfl, rfl⟩ rfl rfl rfl rfl rfl (by kernel_rfl) Yba.func7 (by kernel_rfl)
    (of_decide_eq_true (by kernel_rfl)) (by unfold Func.isWrapper; first | (rw [if_pos (by decide +kernel)]; kernel_rfl) | (rw [if_neg (by decide +kernel)]; exact ⟨rfl, rfl⟩))
    (fun os started H enc _ => lifted os started H enc)
end Go.Proofs.Ybulkaqom.lawS2105CModel

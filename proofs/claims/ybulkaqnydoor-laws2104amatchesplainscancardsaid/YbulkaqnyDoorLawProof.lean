/-
  'Rows.LawS2104AMatchesPlainScanSaid' AND ITS CARD.
-/
import Derived.Test.YbulkaqnyDoorCards
import Derived.Test.YbulkaqnyDoorTie
import Derived.Test.YbulkaqnyDoorLaw0
import Derived.ProofKit
import Derived.OpenShut
import Derived.LaidMore
import Derived.Stop.Joined
import Derived.Lib.LaidTab
import Derived.Deep.Matrix
namespace Go.Proofs.YbulkaqnyDoor
open Go.ChangeShapes Go.WideShapes Go.ChangeAt Go.RowKit Go.Deep

theorem own : ownKnob Ybad.prog.godebug = none := by kernel_rfl
theorem laidOut : laidOutB Ybad.prog = true := by kernel_rfl
theorem gTab : Ybad.prog.globalNamed (Rows.lawS2104AMatchesPlainScanRow.named.headD "") = some 0 := by kernel_rfl
theorem tTab : (Ybad.prog.globals[0]?).map (·.type) = some 49 := by kernel_rfl

/-- The door's own heap meets the condition. -/
theorem door_met (os : Os) (args : Array Value) : laidMetH Ybad.prog Rows.lawS2104AMatchesPlainScanRow.laid ((World.doorLaid Ybad.prog 800 os).forCall (fun _ _ => 0) ⟨#[], args, []⟩).memory :=
  laidMetH_of_parts3 (fuel := 8) (laidMet_of_run' 8 (by kernel_rfl) (by kernel_rfl)) (by kernel_rfl) (by kernel_rfl)

/-- What the condition gives the walk: the table in its variable. -/
theorem of_laid {W : World} (h : laidMetH Ybad.prog Rows.lawS2104AMatchesPlainScanRow.laid W) : TabAt 0 Lib.deBruijn64tab W := by
  rw [MakeChecks.laidMetH_plain _ _ _ (by kernel_rfl)] at h
  obtain ⟨ps, ⟨g0, t0, cs0, f0, p0, q0, hg0, ht0, hv0, hd0, _⟩, _⟩ := h
  obtain rfl := Option.some.inj (gTab.symm.trans hg0)
  obtain rfl := Option.some.inj (tTab.symm.trans ht0)
  have hd : DataW.trod _ Ybad.prog W 0 _ false f0 49 cs0.toList = some (Lib.tabData .u8 (Lib.deBruijn64tab.map fun n : Nat => (n : Int)), p0) := hd0
  have hcs := Lib.cells_of_tab Ybad.underlying49 Ybad.underlying5 (by kernel_rfl) (by kernel_rfl) hd
  intro j hj
  have := World.var?_cell hg0 hv0 j
  rw [this]
  have e : cs0[j]? = cs0.toList[j]? := by simp
  rw [e, hcs]
  simp [hj]

theorem lt_of_cell {w : World} {a : Addr} {v : Value} (h : w.cell? a = some v) : a.block < w.heap.size := by
  rcases Nat.lt_or_ge a.block w.heap.size with c | c
  · exact c
  · simp [World.cell?, Array.getElem?_eq_none c] at h

/-- A place that holds something is no mere spot. -/
theorem addr_plain {w : World} {a : Addr} {v : Value} (h : w.cell? (a.add 0) = some v) : ∃ b o, a = ⟨b, o, none⟩ := by
  obtain ⟨b, o, sp⟩ := a
  cases sp with
  | none => exact ⟨b, o, rfl⟩
  | some x =>
    simp only [Addr.add, if_true, World.cell?] at h
    split at h
    · simp at h
    · cases h

theorem add_plain (b o j : Nat) : (⟨b, o, none⟩ : Addr).add j = ⟨b, o + j, none⟩ := by
  cases j <;> simp [Addr.add]

/-- THE LAW AT WHATEVER ARGUMENTS. -/
theorem law_any {H : Type} {enc : TypeId × Value → H} (a : Option Addr) (len cap : Nat) (wv : Int) (back : Bool) (W : World) (hT : TabAt 0 Lib.deBruijn64tab W) (hw0 : 0 ≤ wv) (hw1 : wv ≤ 65535) {d : DataW H} {p : List MemPlace}
    (h : DataW.Trod enc Ybad.prog W 0 (fun _ => true) true 22 (.slice a len cap) d p) :
    Calls Ybad.prog 3 #[.slice a len cap, .int .u16 wv, .bool back] W fun e w' => e = .returned (.bool true) ∧ Below W.heap.size W w' := by
  have hpos : 0 < W.heap.size := by
    have := lt_of_cell (hT 0 (by decide))
    exact this
  obtain ⟨fuel, hf⟩ := h
  rcases open_int_rows Ybad.underlying22 Ybad.underlying24 Ybad.underlying23 (by kernel_rfl) (by kernel_rfl) hf with ⟨hcs, _⟩ | ⟨x, l, c, A, L, C, Z, hcs, _, hl, hm, _, hr⟩
  · simp [Value.cells] at hcs
    obtain ⟨rfl, rfl, rfl⟩ := hcs
    exact law_empty none 0 wv back W hpos hw0 hw1 hT
  · simp [Value.cells] at hcs
    obtain ⟨rfl, rfl, rfl⟩ := hcs
    unfold maxLen at hm
    rcases Nat.lt_or_ge 1024 len with hb | hb
    · exact law_long _ len cap wv back W hb (by omega)
    rcases Nat.eq_zero_or_pos len with hz | hp
    · subst hz
      exact law_empty _ cap wv back W hpos hw0 hw1 hT
    · obtain ⟨b, off, rfl⟩ := addr_plain (hr 0 (by omega)).1
      refine law_walk b off len cap A L C (fun r c => (Z r).getD c 0) wv back W ?_ hb (fun r hlt => ?_) (fun r hlt => ?_) (fun r hlt hLp => ?_) hw0 hw1 hT
      · have := lt_of_cell (hr 0 (by omega)).1
        rw [add_plain] at this
        exact this
      · have := (hr r (by omega)).1
        rw [add_plain] at this
        exact this
      · obtain ⟨_, h2, h3, _⟩ := hr r (by omega)
        unfold maxLen at h3
        omega
      · obtain ⟨_, h2, h3, h4, h5, h6, h7⟩ := hr r (by omega)
        cases hA : A r with
        | none => have := h6 hA; omega
        | some a' =>
          obtain ⟨_, h8⟩ := h7 a' hA
          obtain ⟨ab, ao, rfl⟩ := addr_plain (h8 0 (by omega))
          refine ⟨ab, ao, rfl, ?_, fun c hc => ?_⟩
          · have := lt_of_cell (h8 0 (by omega))
            rw [add_plain] at this
            exact this
          · have h9 := h8 c (by omega)
            rw [add_plain] at h9
            refine ⟨h9, ?_⟩
            have hmem : (Z r).getD c 0 ∈ Z r := by
              rw [List.getD_eq_getElem?_getD, List.getElem?_eq_getElem (by omega)]
              simp
            exact bounds_u16 (h5 _ hmem)

set_option maxRecDepth 100000 in
theorem lifted (os : Os) (started : os.Started) (H : Type) (enc : TypeId × Value → H) :
    ReturnsInHanded {} Ybad.checked os 3 .any (fun w args => (Rows.lawS2104AMatchesPlainScanSpec.pre enc Ybad.prog Ybad.f3 [] false w args ∧ laidMetH Ybad.prog Rows.lawS2104AMatchesPlainScanRow.laid w) ∧ sizedMet enc Ybad.prog Ybad.f3 (OpenSpec.ofChange Rows.lawS2104AMatchesPlainScanSpec) false w args)
      (Rows.lawS2104AMatchesPlainScanSpec.post enc Ybad.prog Ybad.f3 false true false false) := by
  refine returnsInHanded_of_change_and (C := Ybad.checked) (X := fun w _ => laidMetH Ybad.prog Rows.lawS2104AMatchesPlainScanRow.laid w) (fun _ _ _ hh h => h.of_heap hh) own started (by kernel_rfl) Ybad.func3
    (ChangeSpec.witness_shaped (enc := enc) (C := Ybad.checked) (os := os) (X := fun w _ => laidMetH Ybad.prog Rows.lawS2104AMatchesPlainScanRow.laid w) false (World.doorLaid Ybad.prog 800 os) #[.slice none 0 0, .int .u16 0, .bool false] 8 rfl (World.shaped_of_RefB (by kernel_rfl) (by kernel_rfl)) (by kernel_rfl) (by kernel_rfl) (by kernel_rfl) (door_met os _)) ?_
  intro W base args ds gs before hval0 hW _ _ hL _
  have hval : ∀ (j : Nat) t v, Ybad.f3.params[j]? = some t → args[j]? = some v → Value.okWide Ybad.prog W .any base t v := hval0
  have hW' := hW
  obtain ⟨p, q, hA0, hV, rfl, hfz, hnd⟩ := hW
  have hA : DataW.TrodAll enc Ybad.prog W 0 (fun _ => true) true Ybad.f3.params.toList args.toList ds p := hA0
  rw [Ybad.params3] at hA hval
  obtain ⟨v0, vs0, d0, ds0, p0, q0, hargs, rfl, rfl, h0, r0⟩ := trodAll_cons hA
  obtain ⟨v1, vs1, d1, ds1, p1, q1, rfl, rfl, rfl, h1, r1⟩ := trodAll_cons r0
  obtain ⟨v2, vs2, d2, ds2, p2, q2, rfl, rfl, rfl, h2, r2⟩ := trodAll_cons r1
  obtain ⟨rfl, rfl, rfl⟩ := trodAll_nil r2
  obtain rfl : args = #[v0, v1, v2] := by cases args; simp_all
  obtain ⟨rfl, rfl⟩ := trodVars_none hV
  obtain ⟨a0, len0, cap0, rfl⟩ := okWide_slice Ybad.underlying22 (hval 0 22 v0 rfl rfl)
  obtain ⟨a1, rfl, rfl, rfl, w1⟩ := open_int Ybad.underlying23 (hval 1 23 v1 rfl rfl) h1
  obtain ⟨a2, rfl, rfl, rfl⟩ := open_bool Ybad.underlying4 (hval 2 4 v2 rfl rfl) h2
  have k0 := h0
  have lt0 : ∀ x ∈ p0, x.block < W.heap.size := by obtain ⟨m, hm⟩ := k0; exact DataW.trod_lt m _ _ _ hm
  have hT := of_laid hL
  have hb1 : 0 ≤ a1 ∧ a1 ≤ 65535 := bounds_u16 w1
  clear hA0 hval0
  refine (law_any a0 len0 cap0 a1 a2 W hT hb1.1 hb1.2 h0).mono fun e W' ⟨he, bel⟩ => ?_
  subst he
  exact ⟨_, rfl, _, _, _, [], _, [], hW', trodAll_mk1 (shut_bool Ybad.underlying4 _), (trodAll_cons_mk (Below.trod laidOut (by kernel_rfl) (of_decide_eq_true (by kernel_rfl)) k0 bel lt0) (trodAll_cons_mk (shut_int Ybad.underlying23 w1) (trodAll_cons_mk (shut_bool Ybad.underlying4 _) trodAll_mk0))), rfl, bel.frame _, fun h => by cases h⟩

theorem row_holds : Rows.LawS2104AMatchesPlainScanSaid :=
  OpenClaim.holds_of_wide 3 Ybad.f3 rfl rfl rfl rfl rfl rfl rfl ⟨rfl, rfl, rfl, rfl, rfl⟩ rfl rfl rfl rfl rfl (by kernel_rfl) Ybad.func3 (by kernel_rfl)
    (of_decide_eq_true (by kernel_rfl)) (by unfold Func.isWrapper; first | (rw [if_pos (by decide +kernel)]; kernel_rfl) | (rw [if_neg (by decide +kernel)]; exact ⟨rfl, rfl⟩))
    (fun os started H enc _ => lifted os started H enc)

theorem card_holds : Rows.LawS2104AMatchesPlainScanCardSaid :=
  Claim7.holds_tied_plain_at .later [] [.data] true (true, Rows.lawS2104AMatchesPlainScanCard.stood.harness.2) false
    row_holds (fun _ h => by cases h) (by kernel_rfl) (fun _ h => by cases h) lawS2104AMatchesPlainScan_row_tie rfl ⟨rfl, rfl⟩ (by kernel_rfl) rfl
    (fun f fn hf hfn => by
      obtain rfl : f = 3 := Option.some.inj ((show Ybad.prog.funcNamed Rows.lawS2104AMatchesPlainScanRow.func = some 3 by kernel_rfl).symm.trans hf) |>.symm
      obtain rfl : fn = Ybad.f3 := (Option.some.inj (Ybad.func3.symm.trans hfn)).symm
      exact ⟨by kernel_rfl, fun j t ht => by
        rw [Ybad.params3] at ht
        have h3 : t = 22 ∨ t = 23 ∨ t = 4 := by
          rcases j with _ | _ | _ | j
          · exact .inl (by simpa using ht.symm)
          · exact .inr (.inl (by simpa using ht.symm))
          · exact .inr (.inr (by simpa using ht.symm))
          · simp at ht
        rcases h3 with rfl | rfl | rfl
        · exact (show Ybad.prog.wantsStandIn 22 = false by kernel_rfl)
        · exact (show Ybad.prog.wantsStandIn 23 = false by kernel_rfl)
        · exact (show Ybad.prog.wantsStandIn 4 = false by kernel_rfl)⟩)
    (by kernel_rfl)
end Go.Proofs.YbulkaqnyDoor

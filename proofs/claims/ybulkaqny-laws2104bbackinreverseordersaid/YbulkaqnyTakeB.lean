/-
  (*laneWalk).take, a walk back.
-/
import Derived.Test.YbulkaqnyTake
namespace Go.Proofs.Ybulkaqny
open Go.RowKit

set_option maxHeartbeats 1000000 in
theorem take_bwd {w : World} {bw bl br n : Nat} {md : Nat → Nat} {lk A : Nat → Option Nat} {L : Nat} (h : Walk w bw bl br n md true lk A L) :
    Calls Yba.prog 6 #[.pointer (some ⟨bw, 0, none⟩)] w (Taken w bw bl br n md true lk A L) := by
  have hleft := h.left
  go_enter Yba.func6, Yba.ntmps6
  go_wp2_with fail
  go_loopw [3, 4] (fun a l wr => ∃ (t q : Nat), t ≤ 6 ∧ l = .int .u8 (hiOf L t) ∧ Found br true A t a ∧ wr = w.drewN q) (fun _ l _ => (intOf l).toNat)
  case atStart => exact ⟨0, 0, by omega, by simp [hiOf], .inl ⟨rfl, best_start _ _⟩, rfl⟩
  case round =>
    obtain ⟨t, q, ht, rfl, hfound, hwr⟩ := hrel
    have hq : Walk wr bw bl br n md true lk A L := hwr ▸ h.drewN q
    have HW : Hid (wr = w.drewN q) := hwr
    clear hwr hleft
    have hL := h.lt
    obtain ⟨hc64, hce⟩ := end_of hL ht
    by_cases hc : hiOf L t = 0
    · have hend : ∀ x, x < 6 → t ≤ x → A x = none := fun x h1 h2 => by
        have := h.bit x h1
        rw [hce hc x h1 h2] at this
        exact Option.not_isSome_iff_eq_none.1 (by rw [← this]; simp)
      rw [hc]
      rcases hfound with ⟨rfl, hbest⟩ | ⟨f, rfl, hbest⟩
      · have hb := best_end hbest ht hend
        clear hbest hend hce
        go_wp2_with fail
        go_ret
        exact .inl ⟨rfl, hb, q, HW.out⟩
      · have hb := best_end hbest ht hend
        obtain ⟨⟨m0, hm0, hA0⟩, _⟩ := hbest
        obtain ⟨hfn, hfm⟩ := h.inb m0 f hA0
        subst hfm
        obtain ⟨hr1, hr2⟩ := h.mdr f hfn
        have hAf : A (md f) ≠ none := by rw [hA0]; simp
        have hbk := hq.bk
        have hmode := hq.mode f hfn
        have hfr := hq.fr (1 + md f)
        have hfm' := hq.fronts (md f) (by omega)
        obtain ⟨v, hv⟩ : ∃ v, wr.cell? ⟨bw, 1 + md f, none⟩ = some v := ⟨_, hfm'⟩
        have hwn0 : wr.cell? ⟨br, f * 13 + 11, none⟩ = some (.pointer none) := hq.wn f hfn
        have hwn := hq.lp rfl f hfn
        have hm1 : (0 : Int) ≤ (md f : Int) := by omega
        have hm2 : (md f : Int) < 6 := by omega
        have hn1 : ¬ (bw = br) := hq.ne1
        have hn2 : ¬ (br = bw) := fun e => hq.ne1 e.symm
        clear hfm' hend hce
        cases hlk : lk f with
        | none =>
          rw [hlk] at hwn
          have hwn' : wr.cell? ⟨br, f * 13 + 8, none⟩ = some (.pointer none) := hwn
          clear hwn
          have fin := fin_none hq HW.out hfn hAf hb hlk
          have HS := stop_last hq ⟨hr1, hr2⟩
          clear hlk
          go_wp2_with fail
          go_region
          go_wp2_with fail
          refine HS.mono ?_
          rintro e w5 ⟨rfl, hw5⟩
          subst w5
          generalize lastWorld wr bw (md f) L = w5 at *
          go_wp2_with fail
          go_ret
          exact fin
        | some g =>
          rw [hlk] at hwn
          have hwn' : wr.cell? ⟨br, f * 13 + 8, none⟩ = some (.pointer (some ⟨br, g * 13, none⟩)) := hwn
          have fin := fin_some hq HW.out hfn hAf hb hlk
          clear hwn hlk
          go_wp2_with fail
          go_region
          go_wp2_with fail
          go_ret
          exact fin
    · obtain ⟨m, hm, htm, hm6, hbit, hno, hand, hless⟩ := low_of hL ht hc
      obtain ⟨j, hj⟩ : ∃ j, A m = some j := by
        have := h.bit m hm6
        rw [hbit] at this
        exact Option.isSome_iff_exists.1 this.symm
      have hfront : wr.cell? ⟨bw, 1 + m, none⟩ = some (.pointer (some ⟨br, j * 13, none⟩)) := by
        have := hq.fronts m hm6
        rw [hj] at this
        exact this
      obtain ⟨hjn, hjm⟩ := h.inb m j hj
      have hno' : ∀ x, t ≤ x → x < m → A x = none := fun x h1 h2 => by
        have := h.bit x (by omega)
        rw [hno x (by omega) h1 h2] at this
        exact Option.not_isSome_iff_eq_none.1 (by rw [← this]; simp)
      have HA : Hid (bits BinOp.and .u8 (hiOf L t : Int) ((hiOf L t : Int) - 1) = ((hiOf L (m + 1) : Nat) : Int)) := hand
      have step := fun f hf => best_step (back := true) (o := none) (f := f) (t := t) (A := A) (j := j) (m := m) hf
      clear step hand hce hbit hno
      generalize hiOf L t = c at *
      have hc0 : ((c : Int) == 0) = false := by simp; omega
      have hcn : ((c : Int) != 0) = true := by simp; omega
      have HTZ : ∀ W, Calls Yba.prog 8 #[.int .u8 (c : Int)] W fun e w' => e = .returned (.int .i64 m) ∧ w' = W := fun W => by
        have := Yba.bits_TrailingZeros8 (c : Int) W (by omega) (by omega)
        rw [Int.toNat_natCast, hm] at this
        exact this
      have HM : Hid (Lib.trailingZeros8 c = m) := hm
      clear hm
      rcases hfound with ⟨rfl, hbest⟩ | ⟨f, rfl, hbest⟩
      · have hb := best_step hbest htm hno' hj (.inl ⟨rfl, rfl⟩)
        clear hbest
        go_wp2_with fail
        go_quiet ((go_at_call 8; exact Calls.quiet_of_same (HTZ _)))
        go_wp2_with fail
        go_quiet (fail)
        go_wp2_with fail
        go_roundw
        case rel => exact ⟨m + 1, _, by omega, by rw [HA.out], .inr ⟨j, rfl, hb⟩, by rw [HW.out]; exact World.drewN_drewN _ _ _⟩
        case measure => rw [HA.out]; simp [intOf]; omega
      · obtain ⟨m0, hm0, hA0⟩ := hbest.1
        obtain ⟨hfn, _⟩ := h.inb m0 f hA0
        have hne : f ≠ j := fun e => by
          subst e
          have a := (h.inb m0 f hA0).2
          omega
        rcases Nat.lt_or_ge j f with hjf | hjf
        · have hb := best_step (f := f) hbest htm hno' hj (.inr ⟨f, rfl, by simp; omega⟩)
          have hd : decide ((j : Int) < (f : Int)) = true := by simp; omega
          clear hbest
          go_wp2_with fail
          go_quiet ((go_at_call 8; exact Calls.quiet_of_same (HTZ _)))
          obtain ⟨w2, hw2⟩ : ∃ w2, w2 = wr.drewN nq := ⟨_, rfl⟩
          rw [← hw2]
          have hq2 : Walk w2 bw bl br n md true lk A L := hw2 ▸ hq.drewN nq
          have HW2 : Hid (w2 = w.drewN (q + nq)) := by show _ = _; rw [hw2, HW.out]; exact World.drewN_drewN _ _ _
          have hlk := hq2.lock
          have hbk := hq2.bk
          have a1 := hq2.ord
          have a2 := hq2.conv j hjn
          have a3 := hq2.conv f hfn
          have a4 := hq2.arr j hjn
          have a5 := hq2.arr f hfn
          clear hw2 hq hfront
          go_wp2_with fail
          go_quiet ((go_at_call 9; exact Calls.quiet_of (ahead_any bl br (j * 13) (f * 13) j f _ a1 a2 a3 a4 a5)))
          go_wp2_with fail
          go_roundw
          case rel => exact ⟨m + 1, _, by omega, by rw [HA.out], .inr ⟨f, rfl, hb⟩, by rw [HW2.out]; exact World.drewN_drewN _ _ _⟩
          case measure => rw [HA.out]; simp [intOf]; omega
        · have hb := best_step (f := j) hbest htm hno' hj (.inr ⟨f, rfl, by simp; omega⟩)
          have hd : decide ((j : Int) < (f : Int)) = false := by simp; omega
          have hd2 : decide (j < f) = false := by simp; omega
          clear hbest
          go_wp2_with fail
          go_quiet ((go_at_call 8; exact Calls.quiet_of_same (HTZ _)))
          obtain ⟨w2, hw2⟩ : ∃ w2, w2 = wr.drewN nq := ⟨_, rfl⟩
          rw [← hw2]
          have hq2 : Walk w2 bw bl br n md true lk A L := hw2 ▸ hq.drewN nq
          have HW2 : Hid (w2 = w.drewN (q + nq)) := by show _ = _; rw [hw2, HW.out]; exact World.drewN_drewN _ _ _
          have hlk := hq2.lock
          have hbk := hq2.bk
          have a1 := hq2.ord
          have a2 := hq2.conv j hjn
          have a3 := hq2.conv f hfn
          have a4 := hq2.arr j hjn
          have a5 := hq2.arr f hfn
          clear hw2 hq hfront
          go_wp2_with fail
          go_quiet ((go_at_call 9; exact Calls.quiet_of (ahead_any bl br (j * 13) (f * 13) j f _ a1 a2 a3 a4 a5)))
          go_wp2_with fail
          go_roundw
          case rel => exact ⟨m + 1, _, by omega, by rw [HA.out], .inr ⟨j, rfl, hb⟩, by rw [HW2.out]; exact World.drewN_drewN _ _ _⟩
          case measure => rw [HA.out]; simp [intOf]; omega
end Go.Proofs.Ybulkaqny

/-
  LawS2105CModel, walked.
-/
import Derived.Test.YbulkaqomC3
namespace Go.Proofs.Ybulkaqom
open Go.RowKit

set_option maxHeartbeats 400000 in
theorem c_long (a : Option Addr) (n cap : Nat) (now : Int) (w : World) (h : 1024 < n) (hn : n ≤ 9223372036854775807) :
    Calls Yba.prog 7 #[.slice a n cap, .int .i64 now] w fun e w' => e = .returned (.bool true) ∧ Below w.heap.size w w' := by
  go_enter Yba.func7, Yba.ntmps7
  go_wp2_with fail
  go_ret
  exact ⟨rfl, Below.refl _ _⟩

theorem Ages.move {w w' : World} {bl br n : Nat} {H : Nat → Int} {B : Nat → Bool} {S : Nat → Int} (h : Ages w bl br n H B S) (hl : bl < w.heap.size) (hr : br < w.heap.size) (hb : Below w.heap.size w w') : Ages w' bl br n H B S :=
  ⟨(hb.cell (p := ⟨bl, 1, none⟩) hl).trans h.sl, fun i hi => (hb.cell (p := ⟨br, i * 4, none⟩) hr).trans (h.h i hi), fun i hi => (hb.cell (p := ⟨br, i * 4 + 1, none⟩) hr).trans (h.b i hi), fun i hi => (hb.cell (p := ⟨br, i * 4 + 2, none⟩) hr).trans (h.s i hi)⟩

set_option maxHeartbeats 1000000 in
theorem c_walk (b off n cap : Nat) (H : Nat → Int) (B : Nat → Bool) (S G : Nat → Int) (now : Int) (w : World) (hb : b < w.heap.size) (hn : n ≤ 1024) (hin : ∀ i, i < n → AgeAt w b (off + i * 4) (H i) (B i) (S i) (G i)) :
    Calls Yba.prog 7 #[.slice (some ⟨b, off, none⟩) n cap, .int .i64 now] w fun e w' => e = .returned (.bool true) ∧ Below w.heap.size w w' := by
  have HB := cbuild_walk b off n cap H B S G w hb hn hin
  go_enter Yba.func7, Yba.ntmps7
  go_wp2_with fail
  refine HB.mono ?_
  rintro e w1 ⟨rfl, hbt⟩
  have hbel1 := hbt.bel
  have hsz1 := hbt.size
  have hages := hbt.ages
  clear HB hbt
  go_wp2_with fail
  go_loopw [6, 15] (fun v x wr => ∃ i : Nat, i ≤ n ∧ x = .int .i64 i ∧ v = .bool (anyTo (fun i => modelF (H i) (B i) (S i) now) i) ∧ Below w1.heap.size w1 wr) (fun _ x _ => n - (intOf x).toNat)
  case atStart => exact ⟨0, Nat.zero_le _, rfl, rfl, Below.refl _ _⟩
  case round =>
    obtain ⟨i, hi, rfl, rfl, hbel⟩ := hrel
    have hsz := hbel.size
    have hbel2 : Below w.heap.size w wr := hbel1.trans (hbel.mono (by omega))
    by_cases hlt : i < n
    · obtain ⟨a0, a1, a2, a3, hlo, hhi⟩ := (hin i hlt).move hb hbel2
      have HM := model_any (H i) (S i) (G i) now (B i) wr hlo hhi
      have HS : Hid (anyTo (fun i => modelF (H i) (B i) (S i) now) (i + 1) = (anyTo (fun i => modelF (H i) (B i) (S i) now) i || modelF (H i) (B i) (S i) now)) := rfl
      generalize anyTo (fun i => modelF (H i) (B i) (S i) now) i = v at *
      cases hf : modelF (H i) (B i) (S i) now
      · rw [hf] at HM HS
        clear hf
        go_wp2_with fail
        refine HM.mono ?_
        rintro e w2 ⟨rfl, hb2⟩
        have hb3 := hbel.trans (hb2.mono hsz)
        clear hb2 hbel hbel2
        go_wp2_with fail
        go_roundw
        case rel => exact ⟨i + 1, by omega, by go_num, by rw [HS.out]; simp, hb3⟩
        case measure => simp [intOf]; omega
      · rw [hf] at HM HS
        clear hf
        go_wp2_with fail
        refine HM.mono ?_
        rintro e w2 ⟨rfl, hb2⟩
        have hb3 := hbel.trans (hb2.mono hsz)
        clear hb2 hbel hbel2
        go_wp2_with fail
        go_roundw
        case rel => exact ⟨i + 1, by omega, by go_num, by rw [HS.out]; simp, hb3⟩
        case measure => simp [intOf]; omega
    · obtain rfl : i = n := by omega
      have HD := ldue_any (w.heap.size + 1) w.heap.size i (fun j => horF (H j)) B S now wr hn (hages.move (by omega) (by omega) hbel)
      simp only [model_due] at HD
      generalize anyTo (fun i => modelF (H i) (B i) (S i) now) i = v at *
      go_wp2_with fail
      refine HD.mono ?_
      rintro e w2 ⟨rfl, q, hw2⟩
      subst w2
      go_wp2_with fail
      go_ret
      exact ⟨by simp, hbel2.trans ⟨rfl, rfl, rfl, Nat.le_refl _, fun _ _ => rfl⟩⟩
end Go.Proofs.Ybulkaqom

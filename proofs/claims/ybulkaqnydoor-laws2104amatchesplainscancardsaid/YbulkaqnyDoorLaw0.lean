/-
  THE LAW AT A SLICE WITHOUT ELEMENTS.
-/
import Derived.Test.YbulkaqnyDoorLaw
namespace Go.Proofs.YbulkaqnyDoor
open Go.RowKit

set_option maxHeartbeats 2000000 in
set_option maxRecDepth 100000 in
/-- The law at a slice without elements. -/
theorem law_empty (a : Option Addr) (cap : Nat) (wv : Int) (back : Bool) (w : World) (hpos : 0 < w.heap.size) (hw0 : 0 ≤ wv) (hw1 : wv ≤ 65535) (hT : TabAt 0 Lib.deBruijn64tab w) :
    Calls Ybad.prog 3 #[.slice a 0 cap, .int .u16 wv, .bool back] w fun e w' => e = .returned (.bool true) ∧ Below w.heap.size w w' := by
  go_enter Ybad.func3, Ybad.ntmps3
  go_wp2_with fail
  go_loop [7] (fun i => ∃ j : Nat, j ≤ 0 ∧ i = .int .i64 j) (fun i => 0 - (intOf i).toNat)
  case atStart => exact ⟨0, Nat.zero_le _, rfl⟩
  case round =>
    obtain ⟨j, hj, rfl⟩ := hrel
    obtain rfl : j = 0 := by omega
    have hz29 := zero29
    have hbegin := begin_out w
    have HB : Hid (beginWorld w = (w.alloc (.cells #[.pointer none, .pointer none, .pointer none, .pointer none, .pointer none, .int .i64 0] 28)).alloc (.cells falses 29)) := rfl
    go_wp2_with fail
    rw [← HB.out]
    clear HB hz29
    generalize beginWorld w = w2 at *
    go_loopw [10] (fun i wr => ∃ (k : Nat) (P : Nat → Nat × Nat) (ff : Nat → Nat → Nat) (pr : Nat → Bool), k ≤ 0 ∧ k ≤ 5 ∧ i = .int .i64 k ∧ Out w wr wr.heap.size k P ff pr ∧ (∀ v, v < 128 → (pr v = true ↔ ∃ t, t < k ∧ ff t v ≠ 0))) (fun i _ => 0 - (intOf i).toNat)
    case atStart => exact ⟨0, _, _, _, Nat.zero_le _, by omega, rfl, hbegin, fun v hv => by simp⟩
    case round =>
      obtain ⟨k, P, ff, pr, hk1, hk2, rfl, hout, hlink⟩ := hrel
      obtain rfl : k = 0 := by omega
      have hsz := hout.size
      have hT2 := tab_move hT hout.bel (by omega)
      have hW := uwordNext_any setNext2 (hout.union hk2) hT2 (fun t v hv => hout.zero t v (by omega)) (wv % 142 - 1) back (by omega) (by omega)
      have hpr : ∀ v, (orTo ff v 0 ≠ 0) ↔ (v < 128 ∧ pr v = true) := fun v => by
        rw [or_ne]
        rcases Nat.lt_or_ge v 128 with hv | hv
        · rw [hlink v hv]; simp [hv]
        · constructor
          · rintro ⟨t, _, ht⟩; exact absurd (hout.zero t v hv) ht
          · omega
      go_wp2_with fail
      refine hW.mono ?_
      rintro e w5 ⟨r, rfl, hr, hb5⟩
      have hbel5 := hout.bel.trans (hb5.mono (by omega))
      have hr5 : IsNext (Among pr) (wv % 142 - 1) back r := hr.congr hpr
      have hp5 : Hid (∀ v, v < 128 → w5.cell? ⟨w.heap.size + 1, v, none⟩ = some (.bool (pr v))) := fun v hv => (hb5.cell (p := ⟨w.heap.size + 1, v, none⟩) (by show w.heap.size + 1 < wr.heap.size; omega)).trans (hout.pre v hv)
      have hq1 : -1 ≤ wv % 142 - 1 := by omega
      have hq2 : wv % 142 - 1 ≤ 140 := by omega
      clear hW hpr hr hb5 hout hlink hT2
      cases back
      · go_wp2_with fail
        go_loop [17, 19] (fun x i => ∃ (v y : Int), -1 ≤ v ∧ v ≤ 127 ∧ i = .int .i64 v ∧ x = .int .i64 y ∧ IsNext (Above pr v) (wv % 142 - 1) false y) (fun _ i => (intOf i + 1).toNat)
        case atStart => exact ⟨127, -1, by omega, by omega, rfl, rfl, above_start _ _⟩
        case round =>
          obtain ⟨v, y, hv1, hv2, rfl, rfl, hy⟩ := hrel
          by_cases hvq : wv % 142 - 1 < v
          · obtain ⟨n, rfl⟩ := Int.eq_ofNat_of_zero_le (show 0 ≤ v by omega)
            have hc5 := hp5.out n (by omega)
            cases hpn : pr n
            · rw [hpn] at hc5
              have hy2 := above_miss hy hpn
              clear hy hpn
              go_wp2_with fail
              go_round
              case rel => exact ⟨_, _, by omega, by omega, rfl, rfl, hy2⟩
              case measure => simp [intOf] <;> omega
            · rw [hpn] at hc5
              have hy2 := above_hit hvq (by omega) hpn
              clear hy hpn
              go_wp2_with fail
              go_round
              case rel => exact ⟨_, _, by omega, by omega, rfl, rfl, hy2⟩
              case measure => simp [intOf] <;> omega
          · obtain rfl := (above_end hy (by omega)).unique hr5
            go_wp2_with fail
            go_ret
            exact ⟨by simp, hbel5⟩
      · go_wp2_with fail
        go_loop [17, 18] (fun x i => ∃ (n : Nat) (y : Int), n ≤ 128 ∧ i = .int .i64 n ∧ x = .int .i64 y ∧ IsNext (Before pr n) (wv % 142 - 1) true y) (fun _ i => 128 - (intOf i).toNat)
        case atStart => exact ⟨0, -1, by omega, rfl, rfl, before_start _ _⟩
        case round =>
          obtain ⟨n, y, hn1, rfl, rfl, hy⟩ := hrel
          by_cases hn2 : n < 128
          · by_cases hvq : (n : Int) < wv % 142 - 1
            · have hc5 := hp5.out n (by omega)
              cases hpn : pr n
              · rw [hpn] at hc5
                have hy2 := before_miss hy hpn
                clear hy hpn
                go_wp2_with fail
                go_round
                case rel => exact ⟨n + 1, _, by omega, by go_num, rfl, hy2⟩
                case measure => simp [intOf]; omega
              · rw [hpn] at hc5
                have hy2 := before_hit hvq hpn
                clear hy hpn
                go_wp2_with fail
                go_round
                case rel => exact ⟨n + 1, _, by omega, by go_num, rfl, hy2⟩
                case measure => simp [intOf]; omega
            · obtain rfl := (before_end hy hn1 (.inr (by omega))).unique hr5
              go_wp2_with fail
              go_ret
              exact ⟨by simp, hbel5⟩
          · obtain rfl := (before_end hy hn1 (.inl (by omega))).unique hr5
            go_wp2_with fail
            go_ret
            exact ⟨by simp, hbel5⟩
end Go.Proofs.YbulkaqnyDoor

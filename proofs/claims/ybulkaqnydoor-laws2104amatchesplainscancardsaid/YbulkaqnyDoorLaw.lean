/-
  THE LAW, WALKED.
-/
import Derived.Test.YbulkaqnyDoorState
import Derived.Test.YbulkaqnyDoorScan
namespace Go.Proofs.YbulkaqnyDoor
open Go.RowKit

set_option maxHeartbeats 400000 in
theorem law_long (a : Option Addr) (len cap : Nat) (wv : Int) (back : Bool) (w : World) (h : 1024 < len) (hlen : len ≤ 9223372036854775807) :
    Calls Ybad.prog 3 #[.slice a len cap, .int .u16 wv, .bool back] w fun e w' => e = .returned (.bool true) ∧ Below w.heap.size w w' := by
  go_enter Ybad.func3, Ybad.ntmps3
  go_wp2_with fail
  go_ret
  exact ⟨rfl, Below.refl _ _⟩

/-- The table's cells as 'var present [128]bool' lays them. -/
def falses : Array Value := Array.replicate 128 (.bool false)
theorem zero29 (w : World) : (zeroValue 29).run Ybad.prog w = .ok (.agg falses) w := by kernel_rfl

/-- The union's block and the table's, as the law lays them. -/
def beginWorld (w : World) : World := (w.alloc (.cells #[.pointer none, .pointer none, .pointer none, .pointer none, .pointer none, .int .i64 0] 28)).alloc (.cells falses 29)

theorem begin_out (w : World) : Out w (beginWorld w) (beginWorld w).heap.size 0 (fun _ => (0, 0)) (fun _ _ => 0) (fun _ => false) := by
  have hs : (beginWorld w).heap.size = w.heap.size + 2 := by simp [beginWorld]
  have hs1 : (w.alloc (.cells #[.pointer none, .pointer none, .pointer none, .pointer none, .pointer none, .int .i64 0] 28)).heap.size = w.heap.size + 1 := by simp
  have c0 : ∀ j, (beginWorld w).cell? ⟨w.heap.size, j, none⟩ = (#[.pointer none, .pointer none, .pointer none, .pointer none, .pointer none, .int .i64 0] : Array Value)[j]? := fun j =>
    (World.cell?_alloc_past _ _ _ (by rw [hs1]; omega)).trans (World.cell?_alloc_new _ _ _ _)
  have f0 : ∀ j, (beginWorld w).frozen? ⟨w.heap.size, j, none⟩ = false := fun j =>
    (World.frozen?_alloc_past _ _ _ (by rw [hs1]; omega)).trans (World.frozen?_alloc_new _ _ _ _)
  refine ⟨((Below.refl _ w).alloc (Nat.le_refl _) _).alloc (by simp) _, by omega, by omega, c0 5, fun j hj => by omega, fun j _ hj => ?_, f0, fun v hv => ?_, fun v => World.frozen?_alloc_at _ _ _ _ hs1.symm, fun j hj => by omega, fun _ _ _ => rfl⟩
  · rw [c0]
    match j, hj with
    | 0, _ => rfl
    | 1, _ => rfl
    | 2, _ => rfl
    | 3, _ => rfl
    | 4, _ => rfl
  · refine (World.cell?_alloc_at _ _ _ _ hs1.symm).trans ?_
    simp [falses, hv]

set_option maxHeartbeats 2000000 in
set_option maxRecDepth 100000 in
theorem law_walk (b off len cap : Nat) (A : Nat → Option Addr) (L C : Nat → Nat) (Z : Nat → Nat → Int) (wv : Int) (back : Bool) (w : World) (hlb : b < w.heap.size) (hlen : len ≤ 1024)
    (hrow : ∀ r, r < len → w.cell? ⟨b, off + r, none⟩ = some (.slice (A r) (L r) (C r))) (hL : ∀ r, r < len → L r ≤ 9223372036854775807)
    (hin : ∀ r, r < len → 0 < L r → ∃ ab ao, A r = some ⟨ab, ao, none⟩ ∧ ab < w.heap.size ∧ ∀ c, c < L r → w.cell? ⟨ab, ao + c, none⟩ = some (.int .u16 (Z r c)) ∧ 0 ≤ Z r c ∧ Z r c ≤ 65535)
    (hw0 : 0 ≤ wv) (hw1 : wv ≤ 65535) (hT : TabAt 0 Lib.deBruijn64tab w) :
    Calls Ybad.prog 3 #[.slice (some ⟨b, off, none⟩) len cap, .int .u16 wv, .bool back] w fun e w' => e = .returned (.bool true) ∧ Below w.heap.size w w' := by
  go_enter Ybad.func3, Ybad.ntmps3
  go_wp2_with fail
  go_loop [7] (fun i => ∃ j : Nat, j ≤ len ∧ i = .int .i64 j ∧ ∀ r, r < j → L r ≤ 1024) (fun i => len - (intOf i).toNat)
  case atStart => exact ⟨0, Nat.zero_le _, rfl, fun r hr => by omega⟩
  case round =>
    obtain ⟨j, hj, rfl, hs⟩ := hrel
    by_cases hlt : j < len
    · have hc := hrow j hlt
      have hLj := hL j hlt
      by_cases hbig : 1024 < L j
      · go_wp2_with fail
        go_ret
        exact ⟨rfl, Below.refl _ _⟩
      · go_wp2_with fail
        go_round
        case rel => exact ⟨j + 1, by omega, by go_num, fun r hr => by
          rcases Nat.lt_or_ge r j with h | h
          · exact hs r h
          · obtain rfl : r = j := by omega
            omega⟩
        case measure => simp [intOf]; omega
    · obtain rfl : j = len := by omega
      have hz29 := zero29
      have hbegin := begin_out w
      have HB : Hid (beginWorld w = (w.alloc (.cells #[.pointer none, .pointer none, .pointer none, .pointer none, .pointer none, .int .i64 0] 28)).alloc (.cells falses 29)) := rfl
      go_wp2_with fail
      rw [← HB.out]
      clear HB hz29
      generalize beginWorld w = w2 at *
      go_loopw [10] (fun i wr => ∃ (k : Nat) (P : Nat → Nat × Nat) (ff : Nat → Nat → Nat) (pr : Nat → Bool), k ≤ j ∧ k ≤ 5 ∧ i = .int .i64 k ∧ Out w wr wr.heap.size k P ff pr ∧ (∀ v, v < 128 → (pr v = true ↔ ∃ t, t < k ∧ ff t v ≠ 0))) (fun i _ => j - (intOf i).toNat)
      case atStart => exact ⟨0, _, _, _, Nat.zero_le _, by omega, rfl, hbegin, fun v hv => by simp⟩
      case round =>
        obtain ⟨k, P, ff, pr, hk1, hk2, rfl, hout, hlink⟩ := hrel
        by_cases hgo : k < j ∧ k < 5
        · obtain ⟨hg1, hg2⟩ := hgo
          have hbel := hout.bel
          have hsz := hout.size
          have hc := (hbel.cell (p := ⟨b, off + k, none⟩) hlb).trans (hrow k hg1)
          have hlb2 : b < wr.heap.size := by omega
          have hLk := hL k hg1
          have hstart := Inn.start hout hlink
          have hd5 : decide ((k : Int) < 5) = true := by simp; omega
          obtain ⟨wo, rfl⟩ : ∃ wo : World, wo = wr := ⟨_, rfl⟩
          have HW : Hid (∃ x, x = wo.alloc (.cells #[.int .u64 0, .pointer none] 33)) := ⟨_, rfl⟩
          rcases Nat.eq_zero_or_pos (L k) with hz | hp
          · rw [hz] at hc hLk
            go_wp2_with fail
            go_loopw [52] (fun i wx => i = .int .i64 0 ∧ wx = wo.alloc (.cells #[.int .u64 0, .pointer none] 33)) (fun _ _ => 0)
            case atStart => exact ⟨rfl, rfl⟩
            case round =>
              obtain ⟨rfl, rfl⟩ := hrel
              go_wp2_with fail
              refine (hstart.adds hg2).mono ?_
              rintro e w3 ⟨rfl, hw3⟩
              obtain ⟨P', ff', ho, hl⟩ := hstart.done hg2 hw3
              clear hw3 hstart hout hlink hbel hc
              go_wp2_with fail
              go_roundw
              case rel => exact ⟨k + 1, P', ff', pr, by omega, by omega, by go_num, ho, hl⟩
              case measure => simp [intOf]; omega
          · obtain ⟨ab, ao, hA, hab, hcells⟩ := hin k hg1 hp
            rw [hA] at hc
            have HA : Hid (A k = some ⟨ab, ao, none⟩) := hA
            clear hA
            go_wp2_with fail
            go_loopw [52] (fun i wx => ∃ (c : Nat) (pr2 : Nat → Bool) (F : List Nat) (f : Nat → Nat), c ≤ L k ∧ i = .int .i64 c ∧ Inn w wx wo.heap.size k P ff pr2 F f) (fun i _ => L k - (intOf i).toNat)
            case atStart => exact ⟨0, _, _, _, Nat.zero_le _, rfl, hstart⟩
            case round =>
              obtain ⟨c, pr2, F, f, hcl, rfl, hinn⟩ := hrel
              have hsz2 := hinn.out.size
              by_cases hcl2 : c < L k
              · obtain ⟨hx, hx0, hx1⟩ := hcells c hcl2
                have hcx := (hinn.out.bel.cell (p := ⟨ab, ao + c, none⟩) hab).trans hx
                obtain ⟨i, hi⟩ : ∃ i : Nat, Z k c % 8192 = (i : Int) := ⟨(Z k c % 8192).toNat, by omega⟩
                have hi2 : i < 8192 := by omega
                go_wp2_with fail
                refine (addAt2 wr F wo.heap.size 0 f (i : Int) hinn.set (by omega) (by simp; omega)).mono ?_
                rintro e w4 ⟨rfl, F4, hs4, hK4, hF4⟩
                rw [Int.toNat_natCast] at hs4
                have hstep := hinn.step hi2 hs4 hK4 hF4
                have ho4 := hinn.out.move hK4 (fun x y hxy => by
                  rcases hxy with ⟨rfl, _⟩ | hxy
                  · exact Nat.le_refl _
                  · exact hinn.big x (by simp [hxy]))
                have hp4 := ho4.pre (i / 64) (by omega)
                have hf4 := ho4.frP (i / 64)
                clear hs4 hK4 hF4 hinn ho4 hstart hout hlink hbel hcells hi
                go_wp2_with fail
                go_roundw
                case rel => exact ⟨c + 1, _, _, _, by omega, by go_num, hstep⟩
                case measure => simp [intOf]; omega
              · obtain rfl : c = L k := by omega
                go_wp2_with fail
                refine (hinn.adds hg2).mono ?_
                rintro e w3 ⟨rfl, hw3⟩
                obtain ⟨P', ff', ho, hl⟩ := hinn.done hg2 hw3
                clear hw3 hstart hout hlink hbel hc hinn
                go_wp2_with fail
                go_roundw
                case rel => exact ⟨k + 1, P', ff', pr2, by omega, by omega, by go_num, ho, hl⟩
                case measure => simp [intOf]; omega
        · have hsz := hout.size
          have hT2 := tab_move hT hout.bel (by omega)
          have hW := uwordNext_any setNext2 (hout.union hk2) hT2 (fun t v hv => hout.zero t v (by omega)) (wv % 142 - 1) back (by omega) (by omega)
          have hpr : ∀ v, (orTo ff v k ≠ 0) ↔ (v < 128 ∧ pr v = true) := fun v => by
            rw [or_ne]
            rcases Nat.lt_or_ge v 128 with hv | hv
            · rw [hlink v hv]; simp [hv]
            · constructor
              · rintro ⟨t, _, ht⟩; exact absurd (hout.zero t v hv) ht
              · omega
          by_cases hkj : k < j
          · have hk5 : ¬ (k < 5) := by omega
            go_wp2_with fail
            refine hW.mono ?_
            rintro e w5 ⟨r, rfl, hr, hb5⟩
            have hbel5 := hout.bel.trans (hb5.mono (by omega))
            have hr5 : IsNext (Among pr) (wv % 142 - 1) back r := hr.congr hpr
            have hp5 : Hid (∀ v, v < 128 → w5.cell? ⟨w.heap.size + 1, v, none⟩ = some (.bool (pr v))) := fun v hv => (hb5.cell (p := ⟨w.heap.size + 1, v, none⟩) (by show w.heap.size + 1 < wr.heap.size; omega)).trans (hout.pre v hv)
            have hq1 : -1 ≤ wv % 142 - 1 := by omega
            have hq2 : wv % 142 - 1 ≤ 140 := by omega
            clear hW hpr hr hb5 hout hlink hT2
            cases back
            · go_wp2_with fail
              go_loop [17, 19] (fun x i => ∃ (v y : Int), -1 ≤ v ∧ v ≤ 127 ∧ i = .int .i64 v ∧ x = .int .i64 y ∧ IsNext (Above pr v) (wv % 142 - 1) false y) (fun _ i => (intOf i + 1).toNat)
              case atStart => exact ⟨127, -1, by omega, by omega, rfl, rfl, above_start _ _⟩
              case round =>
                obtain ⟨v, y, hv1, hv2, rfl, rfl, hy⟩ := hrel
                by_cases hvq : wv % 142 - 1 < v
                · obtain ⟨n, rfl⟩ := Int.eq_ofNat_of_zero_le (show 0 ≤ v by omega)
                  have hc5 := hp5.out n (by omega)
                  cases hpn : pr n
                  · rw [hpn] at hc5
                    have hy2 := above_miss hy hpn
                    clear hy hpn
                    go_wp2_with fail
                    go_round
                    case rel => exact ⟨_, _, by omega, by omega, rfl, rfl, hy2⟩
                    case measure => simp [intOf] <;> omega
                  · rw [hpn] at hc5
                    have hy2 := above_hit hvq (by omega) hpn
                    clear hy hpn
                    go_wp2_with fail
                    go_round
                    case rel => exact ⟨_, _, by omega, by omega, rfl, rfl, hy2⟩
                    case measure => simp [intOf] <;> omega
                · obtain rfl := (above_end hy (by omega)).unique hr5
                  go_wp2_with fail
                  go_ret
                  exact ⟨by simp, hbel5⟩
            · go_wp2_with fail
              go_loop [17, 18] (fun x i => ∃ (n : Nat) (y : Int), n ≤ 128 ∧ i = .int .i64 n ∧ x = .int .i64 y ∧ IsNext (Before pr n) (wv % 142 - 1) true y) (fun _ i => 128 - (intOf i).toNat)
              case atStart => exact ⟨0, -1, by omega, rfl, rfl, before_start _ _⟩
              case round =>
                obtain ⟨n, y, hn1, rfl, rfl, hy⟩ := hrel
                by_cases hn2 : n < 128
                · by_cases hvq : (n : Int) < wv % 142 - 1
                  · have hc5 := hp5.out n (by omega)
                    cases hpn : pr n
                    · rw [hpn] at hc5
                      have hy2 := before_miss hy hpn
                      clear hy hpn
                      go_wp2_with fail
                      go_round
                      case rel => exact ⟨n + 1, _, by omega, by go_num, rfl, hy2⟩
                      case measure => simp [intOf]; omega
                    · rw [hpn] at hc5
                      have hy2 := before_hit hvq hpn
                      clear hy hpn
                      go_wp2_with fail
                      go_round
                      case rel => exact ⟨n + 1, _, by omega, by go_num, rfl, hy2⟩
                      case measure => simp [intOf]; omega
                  · obtain rfl := (before_end hy hn1 (.inr (by omega))).unique hr5
                    go_wp2_with fail
                    go_ret
                    exact ⟨by simp, hbel5⟩
                · obtain rfl := (before_end hy hn1 (.inl (by omega))).unique hr5
                  go_wp2_with fail
                  go_ret
                  exact ⟨by simp, hbel5⟩
          · go_wp2_with fail
            refine hW.mono ?_
            rintro e w5 ⟨r, rfl, hr, hb5⟩
            have hbel5 := hout.bel.trans (hb5.mono (by omega))
            have hr5 : IsNext (Among pr) (wv % 142 - 1) back r := hr.congr hpr
            have hp5 : Hid (∀ v, v < 128 → w5.cell? ⟨w.heap.size + 1, v, none⟩ = some (.bool (pr v))) := fun v hv => (hb5.cell (p := ⟨w.heap.size + 1, v, none⟩) (by show w.heap.size + 1 < wr.heap.size; omega)).trans (hout.pre v hv)
            have hq1 : -1 ≤ wv % 142 - 1 := by omega
            have hq2 : wv % 142 - 1 ≤ 140 := by omega
            clear hW hpr hr hb5 hout hlink hT2
            cases back
            · go_wp2_with fail
              go_loop [17, 19] (fun x i => ∃ (v y : Int), -1 ≤ v ∧ v ≤ 127 ∧ i = .int .i64 v ∧ x = .int .i64 y ∧ IsNext (Above pr v) (wv % 142 - 1) false y) (fun _ i => (intOf i + 1).toNat)
              case atStart => exact ⟨127, -1, by omega, by omega, rfl, rfl, above_start _ _⟩
              case round =>
                obtain ⟨v, y, hv1, hv2, rfl, rfl, hy⟩ := hrel
                by_cases hvq : wv % 142 - 1 < v
                · obtain ⟨n, rfl⟩ := Int.eq_ofNat_of_zero_le (show 0 ≤ v by omega)
                  have hc5 := hp5.out n (by omega)
                  cases hpn : pr n
                  · rw [hpn] at hc5
                    have hy2 := above_miss hy hpn
                    clear hy hpn
                    go_wp2_with fail
                    go_round
                    case rel => exact ⟨_, _, by omega, by omega, rfl, rfl, hy2⟩
                    case measure => simp [intOf] <;> omega
                  · rw [hpn] at hc5
                    have hy2 := above_hit hvq (by omega) hpn
                    clear hy hpn
                    go_wp2_with fail
                    go_round
                    case rel => exact ⟨_, _, by omega, by omega, rfl, rfl, hy2⟩
                    case measure => simp [intOf] <;> omega
                · obtain rfl := (above_end hy (by omega)).unique hr5
                  go_wp2_with fail
                  go_ret
                  exact ⟨by simp, hbel5⟩
            · go_wp2_with fail
              go_loop [17, 18] (fun x i => ∃ (n : Nat) (y : Int), n ≤ 128 ∧ i = .int .i64 n ∧ x = .int .i64 y ∧ IsNext (Before pr n) (wv % 142 - 1) true y) (fun _ i => 128 - (intOf i).toNat)
              case atStart => exact ⟨0, -1, by omega, rfl, rfl, before_start _ _⟩
              case round =>
                obtain ⟨n, y, hn1, rfl, rfl, hy⟩ := hrel
                by_cases hn2 : n < 128
                · by_cases hvq : (n : Int) < wv % 142 - 1
                  · have hc5 := hp5.out n (by omega)
                    cases hpn : pr n
                    · rw [hpn] at hc5
                      have hy2 := before_miss hy hpn
                      clear hy hpn
                      go_wp2_with fail
                      go_round
                      case rel => exact ⟨n + 1, _, by omega, by go_num, rfl, hy2⟩
                      case measure => simp [intOf]; omega
                    · rw [hpn] at hc5
                      have hy2 := before_hit hvq hpn
                      clear hy hpn
                      go_wp2_with fail
                      go_round
                      case rel => exact ⟨n + 1, _, by omega, by go_num, rfl, hy2⟩
                      case measure => simp [intOf]; omega
                  · obtain rfl := (before_end hy hn1 (.inr (by omega))).unique hr5
                    go_wp2_with fail
                    go_ret
                    exact ⟨by simp, hbel5⟩
                · obtain rfl := (before_end hy hn1 (.inl (by omega))).unique hr5
                  go_wp2_with fail
                  go_ret
                  exact ⟨by simp, hbel5⟩
end Go.Proofs.YbulkaqnyDoor

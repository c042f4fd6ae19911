/-
  (*Limiter).due; zzs2105cbuild.
-/
import Derived.Test.YbulkaqomC1
import Derived.Test.YbulkaqomHeap
import Derived.Deep.RegionHeld3
import Derived.Laws.MakeOwn
namespace Go.Proofs.Ybulkaqom
open Go.RowKit

/-- Does f say yes somewhere below n? -/
def anyTo (f : Nat → Bool) : Nat → Bool
  | 0 => false
  | n + 1 => anyTo f n || f n

theorem anyTo_hit {f : Nat → Bool} : ∀ {n i : Nat}, i < n → f i = true → anyTo f n = true
  | n + 1, i, h, hf => by
    rcases Nat.lt_or_ge i n with c | c
    · simp [anyTo, anyTo_hit c hf]
    · obtain rfl : i = n := by omega
      simp [anyTo, hf]

/-- The limiter's ages in memory: the struct in block bl, the row in br. -/
structure Ages (w : World) (bl br n : Nat) (H : Nat → Int) (B : Nat → Bool) (S : Nat → Int) : Prop where
  sl : w.cell? ⟨bl, 1, none⟩ = some (.slice (some ⟨br, 0, none⟩) n n)
  h : ∀ i, i < n → w.cell? ⟨br, i * 4, none⟩ = some (.int .i64 (H i))
  b : ∀ i, i < n → w.cell? ⟨br, i * 4 + 1, none⟩ = some (.bool (B i))
  s : ∀ i, i < n → w.cell? ⟨br, i * 4 + 2, none⟩ = some (.int .i64 (S i))

theorem Ages.drewN {w : World} {bl br n : Nat} {H : Nat → Int} {B : Nat → Bool} {S : Nat → Int} (h : Ages w bl br n H B S) (q : Nat) : Ages (w.drewN q) bl br n H B S := ⟨h.sl, h.h, h.b, h.s⟩

set_option maxHeartbeats 800000 in
theorem ldue_any (bl br n : Nat) (H : Nat → Int) (B : Nat → Bool) (S : Nat → Int) (now : Int) (w : World) (hn : n ≤ 1024) (ha : Ages w bl br n H B S) :
    Calls Yba.prog 27 #[.pointer (some ⟨bl, 0, none⟩), .int .i64 now] w fun e w' => e = .returned (.bool (anyTo (fun i => dueF (H i) (B i) (S i) now) n)) ∧ ∃ q, w' = w.drewN q := by
  have hsl := ha.sl
  go_enter Yba.func27, Yba.ntmps27
  go_wp2_with fail
  clear hsl
  go_loopw [11] (fun x wr => ∃ (i q : Nat), i ≤ n ∧ x = .int .i64 i ∧ anyTo (fun i => dueF (H i) (B i) (S i) now) i = false ∧ wr = w.drewN q) (fun x _ => n - (intOf x).toNat)
  case atStart => exact ⟨0, 0, Nat.zero_le _, rfl, rfl, rfl⟩
  case round =>
    obtain ⟨i, q, hi, rfl, hno, hwr⟩ := hrel
    have hr : Ages wr bl br n H B S := hwr ▸ ha.drewN q
    have HW : Hid (wr = w.drewN q) := hwr
    have HN : Hid (anyTo (fun i => dueF (H i) (B i) (S i) now) i = false) := hno
    clear hwr hno
    by_cases hlt : i < n
    · have hsl := hr.sl
      have hd := due_any br (i * 4) (H i) (S i) now (B i) wr (hr.h i hlt) (hr.b i hlt) (hr.s i hlt)
      cases hf : dueF (H i) (B i) (S i) now
      · rw [hf] at hd
        have HS : Hid (anyTo (fun i => dueF (H i) (B i) (S i) now) (i + 1) = false) := by
          show _ = _
          simp only [anyTo, HN.out, hf, Bool.or_self]
        clear hf
        go_wp2_with fail
        refine hd.mono ?_
        rintro e w1 ⟨rfl, q1, hw1⟩
        have HW1 : Hid (w1 = w.drewN (q + q1)) := by show _ = _; rw [hw1, HW.out]; exact World.drewN_drewN _ _ _
        clear hw1
        go_wp2_with fail
        go_roundw
        case rel => exact ⟨i + 1, _, by omega, by go_num, HS.out, HW1.out⟩
        case measure => simp [intOf]; omega
      · rw [hf] at hd
        have HS : Hid (anyTo (fun i => dueF (H i) (B i) (S i) now) n = true) := anyTo_hit hlt hf
        clear hf
        go_wp2_with fail
        refine hd.mono ?_
        rintro e w1 ⟨rfl, q1, hw1⟩
        have HW1 : Hid (w1 = w.drewN (q + q1)) := by show _ = _; rw [hw1, HW.out]; exact World.drewN_drewN _ _ _
        clear hw1
        go_wp2_with fail
        go_ret
        exact ⟨by rw [HS.out]; rfl, _, HW1.out⟩
    · obtain rfl : i = n := by omega
      go_wp2_with fail
      go_ret
      exact ⟨by rw [HN.out]; rfl, _, HW.out⟩
end Go.Proofs.Ybulkaqom

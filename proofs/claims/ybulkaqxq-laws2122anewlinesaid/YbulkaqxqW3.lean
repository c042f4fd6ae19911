/-
  LawS2122ANewline, walked. Own work on this program.
-/
import Derived.Test.YbulkaqxqW2
import Derived.Deep.DeepCutAuto
namespace Go.Proofs.Ybulkaqxq
open Go Go.RowKit

theorem addr_block (a : Addr) (k : Nat) : (a.add k).block = a.block := by
  unfold Addr.add
  split <;> rfl

theorem own_shape {w : World} {base n : Nat} {v : Value} {xs : List Value} (h : w.ownsRow base 26 2 v n xs) : ∃ (o : Option Addr) (c : Nat), v = .slice o n c := by
  rcases h.2 with ⟨rfl, rfl⟩ | ⟨g, cap, cur, rfl, _⟩
  · exact ⟨_, _, rfl⟩
  · exact ⟨_, _, rfl⟩

/-- The pieces' cells. -/
def pcs (ss : List ByteArray) (k : Nat) : List Value := (ss.take k).flatMap fun s => [.string s, .bool false]

theorem pcs_zero (ss : List ByteArray) : pcs ss 0 = [] := rfl
theorem pcs_succ (ss : List ByteArray) (k : Nat) (h : k < ss.length) : pcs ss (k + 1) = pcs ss k ++ [.string (ss.getD k ByteArray.empty), .bool false] := by
  unfold pcs
  rw [List.take_add_one, List.flatMap_append]
  congr 1
  simp [List.getElem?_eq_getElem h, List.getD]

theorem pcs_len (ss : List ByteArray) : ∀ k, k ≤ ss.length → (pcs ss k).length = k * 2
  | 0, _ => rfl
  | k + 1, h => by
    rw [pcs_succ ss k (by omega), List.length_append, pcs_len ss k (by omega)]
    simp
    omega

theorem pcs_get (ss : List ByteArray) : ∀ k, k ≤ ss.length → ∀ j, j < k → (pcs ss k)[j * 2]? = some (.string (ss.getD j ByteArray.empty)) ∧ (pcs ss k)[j * 2 + 1]? = some (.bool false)
  | 0, _, j, h => by omega
  | k + 1, hk, j, h => by
    rw [pcs_succ ss k (by omega)]
    have hlen := pcs_len ss k (by omega)
    by_cases hj : j = k
    · subst hj
      constructor
      · rw [List.getElem?_append_right (by omega), hlen]
        simp
      · rw [List.getElem?_append_right (by omega), hlen]
        have : j * 2 + 1 - j * 2 = 1 := by omega
        rw [this]
        simp
    · have h0 := pcs_get ss k (by omega) j (by omega)
      constructor
      · rw [List.getElem?_append_left (by omega)]
        exact h0.1
      · rw [List.getElem?_append_left (by omega)]
        exact h0.2

/-- What the pieces' cells hold behind newline. -/
theorem piece_cells {w : World} {base g k cap : Nat} {ss : List ByteArray} (hl : ss.length = k) (h : w.ownsRow base 26 2 (.slice (some ⟨g, 0, none⟩) (k + 1) cap) (k + 1) (pcs ss k ++ [.string ⟨#[10]⟩, .bool false])) :
    (∀ j, j < k → w.cell? ⟨g, j * 2, none⟩ = some (.string (ss.getD j ByteArray.empty)) ∧ w.cell? ⟨g, j * 2 + 1, none⟩ = some (.bool false)) ∧ w.cell? ⟨g, k * 2, none⟩ = some (.string ⟨#[10]⟩) ∧ w.cell? ⟨g, k * 2 + 1, none⟩ = some (.bool false) := by
  have hlen := pcs_len ss k (by omega)
  refine ⟨fun j hj => ?_, ?_, ?_⟩
  · have h0 := pcs_get ss k (by omega) j hj
    constructor
    · rw [h.cellAt (j * 2) (by omega), List.getElem?_append_left (by omega)]
      exact h0.1
    · rw [h.cellAt (j * 2 + 1) (by omega), List.getElem?_append_left (by omega)]
      exact h0.2
  · rw [h.cellAt (k * 2) (by omega), List.getElem?_append_right (by omega), hlen]
    simp
  · rw [h.cellAt (k * 2 + 1) (by omega), List.getElem?_append_right (by omega), hlen]
    have : k * 2 + 1 - k * 2 = 1 := by omega
    rw [this]
    rfl

theorem own_shape1 {w : World} {base n : Nat} {v : Value} {xs : List Value} (h : w.ownsRow base 26 2 v (n + 1) xs) : ∃ (g c : Nat), v = .slice (some ⟨g, 0, none⟩) (n + 1) c ∧ n + 1 ≤ c := by
  rcases h.2 with ⟨rfl, h0⟩ | ⟨g, cap, cur, rfl, _, _, hc, _⟩
  · omega
  · exact ⟨g, cap, rfl, hc⟩

theorem rd_new (w : World) (src : ByteArray) (p : Int) (v : Value) :
    Rd (w.alloc (.cells #[.string src, .int .i64 p, .map none, v, .slice none 0 0, .int .i64 (-1), .slice none 0 0, .int .i64 0, .map none, .bool false, .map none] 32)) w.heap.size src p v := by
  refine ⟨⟨_, heap_alloc_new w _⟩, ?_, ?_, ?_, ?_, ?_, ?_, ?_, ?_⟩ <;> simp [go_sem]

set_option maxRecDepth 100000 in
set_option maxHeartbeats 1600000 in
theorem law_walk (src : ByteArray) (at_ len cap p : Nat) (av : Option Addr) (ss : List ByteArray) (w : World) (hl : ss.length = len) (h1 : src.size ≤ 1024) (h2 : len ≤ 1024) (hat : at_ < 18446744073709551616) (hp : p = at_ % (src.size + 1))
    (hcell : 0 < len → ∃ ad : Addr, av = some ad ∧ ad.block < w.heap.size ∧ ∀ i, i < len → w.cell? (ad.add i) = some (.string (ss.getD i ByteArray.empty))) :
    Calls Yba.prog 3 #[.string src, .int .u64 at_, .slice av len cap] w fun e w' => e = .returned (.bool true) ∧ Below w.heap.size w w' := by
  obtain ⟨i0, hi, hz0, hz1, hz2⟩ := info_parts Yba.info26
  have HC : Hid (0 < len → ∃ ad : Addr, av = some ad ∧ ad.block < w.heap.size ∧ ∀ i, i < len → w.cell? (ad.add i) = some (.string (ss.getD i ByteArray.empty))) := hcell
  have HL : Hid (ss.length = len) := hl
  have hpe : wrap64 ((at_ : Int) % ((src.size : Int) + 1)) = (p : Int) := by
    have h3 : at_ % (src.size + 1) < src.size + 1 := Nat.mod_lt _ (by omega)
    have e : ((at_ : Int) % ((src.size : Int) + 1)) = ((at_ % (src.size + 1) : Nat) : Int) := by simp
    rw [e, ← hp]
    unfold wrap64
    omega
  have hps : p ≤ src.size := by
    have h3 : at_ % (src.size + 1) < src.size + 1 := Nat.mod_lt _ (by omega)
    omega
  clear hcell hl hp
  go_enter Yba.func3, Yba.ntmps3
  go_wp2_with (at_make; refine wpList_make_own _ rfl _ _ 24 rfl w.heap.size 26 i0 (.agg #[.string ByteArray.empty, .bool false]) 2 Yba.underlying24 hi hz0 hz1 .i64 .i64 _ len rfl rfl rfl (by rw [hz2]; omega) (by unfold maxLen; omega) (Nat.le_refl _) ?_; intro w0 hown0 hgrow0)
  go_loopw [8, 38] (fun v i wr => ∃ k : Nat, k ≤ len ∧ i = .int .i64 k ∧ wr.ownsRow w.heap.size 26 2 v k (pcs ss k) ∧ Below w.heap.size w wr)
    (fun _ i _ => len - (intOf i).toNat)
  case atStart => exact ⟨0, Nat.zero_le _, rfl, hown0, (Below.refl _ w).grown hgrow0 (Nat.le_refl _) (fun k hk => by cases hk)⟩
  case round =>
    obtain ⟨k, hk, rfl, hown, hb⟩ := hrel
    clear hown0 hgrow0
    have hsz := hb.size
    by_cases hlt : k < len
    · obtain ⟨ad, rfl, hab, hcs⟩ := HC.out (by omega)
      have hcx : wr.cell? (ad.add k) = some (.string (ss.getD k ByteArray.empty)) := (hb.cell (p := ad.add k) (by rw [addr_block]; exact hab)).trans (hcs k hlt)
      have HB : Hid (Below w.heap.size w wr) := hb
      clear hcs hb
      have hsucc := pcs_succ ss k (by have := HL.out; omega)
      have HS : Hid (pcs ss (k + 1) = pcs ss k ++ [.string (ss.getD k ByteArray.empty), .bool false]) := hsucc
      clear hsucc
      generalize ss.getD k ByteArray.empty = sk at *
      go_wp2_with (at_builtin; refine wpList_append_own _ rfl _ _ 24 rfl w.heap.size 26 i0 (.agg #[.string ByteArray.empty, .bool false]) 2 24 Yba.underlying24 hi hz0 hz1 hz2 rfl (by decide) _ _ _ rfl (hown.alloc _) ⟨wr.heap.size, 0, none⟩ 1 1 [.string sk, .bool false] rfl rfl ?c1 ?c2 ?c3 ?c4 ?c5 ?_)
      case c1 =>
        intro j u hj
        match j, hj with
        | 0, hj => simp at hj; subst hj; simp [Addr.add]
        | 1, hj => simp at hj; subst hj; simp [Addr.add]
      case c2 => intro u hu; simp at hu; rcases hu with rfl | rfl <;> rfl
      case c3 => unfold maxLen; omega
      case c4 => omega
      case c5 => simp; omega
      intro v' w1 hown' hgrow _
      have hb' : Below w.heap.size w w1 := by
        have hlow := hown.lt
        refine Below.grown (HB.out.alloc (by omega) _) hgrow (by simp; omega) (fun k hk => ?_)
        exact (hlow k hk).1
      rw [← HS.out] at hown'
      clear hown hgrow hcx HB
      go_wp2
      go_roundw
      case rel => exact ⟨k + 1, by omega, by go_num, hown', hb'⟩
      case measure => simp [intOf]; omega
    · have hke : k = len := by omega
      have hdec : decide ((k : Int) < (len : Int)) = false := by simp; omega
      subst hke
      clear hlt hk
      obtain ⟨ov, cv, rfl⟩ := own_shape hown
      go_upto_region 11 with fail
      have HN := newline_any wr.heap.size w.heap.size w.heap.size k src p (.slice ov k cv) (pcs ss k) _ (rd_new wr src p (.slice ov k cv)) (hown.alloc _) h2 (by simp; omega) (Nat.le_refl _) hsz (by omega) h1
      go_wp2_with fail
      refine HN.mono ?_
      rintro e w2 ⟨rfl, v', q, hown2, hR, hb2, hsk, hstop⟩
      have hbA : Below w.heap.size w w2 := (hb.alloc hsz _).trans hb2
      obtain ⟨g, cap2, rfl, hc2⟩ := own_shape1 hown2
      have HO : Hid (w2.ownsRow w.heap.size 26 2 (.slice (some ⟨g, 0, none⟩) (k + 1) cap2) (k + 1) (pcs ss k ++ [.string ⟨#[10]⟩, .bool false])) := hown2
      have HSk : Hid (Skip src (p + 1) q) := hsk
      have HSt : Hid (q < src.size → isSp (byteAt src q) = false) := hstop
      have HBA : Hid (Below w.heap.size w w2) := hbA
      obtain ⟨-, r0, r1, r3, r4, r5, r6, r7, r9⟩ := hR
      have hlR := lt_of_cell r0
      clear HN hown hb hown2 hsk hstop hbA hb2 hsz
      have HPc := piece_cells HL.out HO.out
      have HPC : Hid (∀ j, j < k → w2.cell? ⟨g, j * 2, none⟩ = some (.string (ss.getD j ByteArray.empty)) ∧ w2.cell? ⟨g, j * 2 + 1, none⟩ = some (.bool false)) := HPc.1
      have HPK : Hid (w2.cell? ⟨g, k * 2, none⟩ = some (.string ⟨#[10]⟩) ∧ w2.cell? ⟨g, k * 2 + 1, none⟩ = some (.bool false)) := HPc.2
      clear HPc HO
      go_upto_region 17 with fail
      go_loopw [92] (fun i wr' => wr' = w2 ∧ ∃ j : Nat, j ≤ k ∧ i = .int .i64 j)
        (fun i _ => k - (intOf i).toNat)
      case atStart => exact ⟨rfl, 0, Nat.zero_le _, rfl⟩
      case round =>
        obtain ⟨rfl, j, hj, rfl⟩ := hrel
        by_cases hlt : j < k
        · obtain ⟨ad, rfl, hab, hcs⟩ := HC.out (by omega)
          have hcx := (HBA.out.cell (p := ad.add j) (by rw [addr_block]; exact hab)).trans (hcs j hlt)
          obtain ⟨hp0, hp1⟩ := HPC.out j hlt
          clear hcs
          generalize ss.getD j ByteArray.empty = t at *
          go_wp2_with fail
          go_roundw
          case rel => exact ⟨by first | rfl | trivial, j + 1, by omega, by go_num⟩
          case measure => simp [intOf]; omega
        · have hje : j = k := by omega
          have hdec2 : decide ((j : Int) < (k : Int)) = false := by simp; omega
          subst hje
          obtain ⟨k0, k1⟩ := HPK.out
          have hI := isSp2_any
          have hq := HSk.out.le
          by_cases hst : p + 1 > src.size
          · have hqe : q = p + 1 := by
              rcases HSk.out.top with h | h <;> omega
            subst hqe
            go_wp2_with fail
            go_ret
            exact ⟨by simp, HBA.out.alloc HBA.out.size _⟩
          · have hqs : q ≤ src.size := by
              rcases HSk.out.top with h | h <;> omega
            have hqd : decide (src.size < q) = false := by simpa using hqs
            have hqd2 : decide ((q : Int) < (p : Int) + 1) = false := by simp; omega
            go_upto_region 32 with fail
            go_loopw [17] (fun i w4 => Below w.heap.size w w4 ∧ ∃ t : Nat, p + 1 ≤ t ∧ t ≤ q ∧ i = .int .i64 t)
              (fun i _ => q - (intOf i).toNat)
            case atStart => exact ⟨HBA.out.alloc HBA.out.size _, p + 1, Nat.le_refl _, hq, by go_num⟩
            case round =>
              obtain ⟨hb4, t, ht1, ht2, rfl⟩ := hrel
              by_cases htq : t < q
              · have hts : t < src.size := by omega
                have hsp : isSp ((src[t].toNat : Nat) : Int) = true := by
                  rw [← byteAt_eq hts]
                  exact HSk.out.all t ht1 htq
                go_wp2_with fail
                refine (hI _ _).mono ?_
                rintro e w5 ⟨rfl, hw5⟩
                subst w5
                go_wp2_with fail
                go_roundw
                case rel => exact ⟨hb4, t + 1, by omega, by omega, by go_num⟩
                case measure => simp [intOf]; omega
              · have hte : t = q := by omega
                subst hte
                clear htq
                by_cases hts : t < src.size
                · have hsp : isSp ((src[t].toNat : Nat) : Int) = false := by
                    rw [← byteAt_eq hts]
                    exact HSt.out hts
                  go_wp2_with (go_at_call 7; refine (hI _ _).mono ?_; rintro e w5 ⟨rfl, hw5⟩; subst w5)
                  go_ret
                  exact ⟨rfl, hb4⟩
                · go_wp2_with fail
                  go_ret
                  exact ⟨rfl, hb4⟩

end Go.Proofs.Ybulkaqxq

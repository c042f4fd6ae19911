/-
  inlineReader.newline. Own work on this program.
-/
import Derived.Test.YbulkaqxqW1
import Derived.Deep.QuietTactic
import Derived.BigQuiet
namespace Go.Proofs.Ybulkaqxq
open Go Go.RowKit

/-- The byte at a place. -/
def byteAt (src : ByteArray) (i : Nat) : Int := ((src.data[i]?.getD 0).toNat : Int)

theorem byteAt_eq {src : ByteArray} {p : Nat} (h : p < src.size) : byteAt src p = ((src[p].toNat : Nat) : Int) := by
  unfold byteAt
  have : src.data[p]? = some (src[p]) := by
    rw [Array.getElem?_eq_getElem (by simpa using h)]
    rfl
  rw [this]
  rfl

theorem below_drewN {B : Nat} {a w : World} (h : Below B a w) (q : Nat) : Below B a (w.drewN q) := ⟨h.os, h.tape, h.output, h.size, h.block⟩

/-- From a to q all is space, and at q not. -/
structure Skip (src : ByteArray) (a q : Nat) : Prop where
  le : a ≤ q
  top : q ≤ src.size ∨ q = a
  all : ∀ i, a ≤ i → i < q → isSp (byteAt src i) = true

def posOf (w : World) (R : Nat) : Int := intOf ((w.cell? ⟨R, 1, none⟩).getD (.int .i64 0))

set_option maxRecDepth 100000 in
set_option maxHeartbeats 800000 in
theorem newline_any (R B base n : Nat) (src : ByteArray) (pos : Nat) (v : Value) (xs : List Value) (w : World) (h : Rd w R src pos v) (hown : w.ownsRow base 26 2 v n xs) (hn : n ≤ 1024) (hbase : base ≤ w.heap.size) (hB : B ≤ base) (hBR : B ≤ R) (hp1 : pos ≤ 1024) (hs : src.size ≤ 1024) :
    Calls Yba.prog 6 #[.pointer (some ⟨R, 0, none⟩)] w fun e w' => e = .returned (.tuple #[]) ∧ ∃ (v' : Value) (q : Nat), w'.ownsRow base 26 2 v' (n + 1) (xs ++ [.string ⟨#[10]⟩, .bool false]) ∧ Rd w' R src q v' ∧ Below B w w' ∧ Skip src (pos + 1) q ∧ (q < src.size → isSp (byteAt src q) = false) := by
  have HA := lineBreak_any R B base n src pos v xs w h hown hn hbase hB hBR (by omega) (by omega)
  have hl := h.lt
  clear h hown
  go_enter Yba.func6, Yba.ntmps6
  go_wp2_with fail
  refine HA.mono ?_
  rintro e w1 ⟨rfl, v', hown, hR, hb⟩
  clear HA
  go_wp2_with fail
  go_loopw [25] (fun _ wr => ∃ p : Nat, wr.ownsRow base 26 2 v' (n + 1) (xs ++ [.string ⟨#[10]⟩, .bool false]) ∧ Rd wr R src p v' ∧ Below B w wr ∧ Skip src (pos + 1) p)
    (fun _ wr => src.size + 2 - (posOf wr R).toNat)
  case atStart => exact ⟨pos + 1, hown, by simpa using hR, hb, ⟨Nat.le_refl _, .inr rfl, fun i h1 h2 => by omega⟩⟩
  case round =>
    obtain ⟨p, hown, hR, hb, hsk⟩ := hrel
    have c0 := hR.c0
    have c1 := hR.c1
    have z1 := hR.frozen 1
    have hl1 := hR.lt
    have HR : Hid (Rd wr R src p v') := hR
    clear hR
    by_cases hlt : p < src.size
    · have hI := isSp_any
      have hltI : (p : Int) < (src.size : Int) := by omega
      go_wp2_with fail
      go_quiet (first | (go_at_call 12; exact Calls.quiet_of_same (hI _ _)))
      have hby : byteAt src p = ((src[p].toNat : Nat) : Int) := byteAt_eq hlt
      have HOwn : Hid (wr.ownsRow base 26 2 v' (n + 1) (xs ++ [.string ⟨#[10]⟩, .bool false])) := hown
      have HSk : Hid (Skip src (pos + 1) p) := hsk
      have HBy : Hid (byteAt src p = ((src[p].toNat : Nat) : Int)) := hby
      clear hown hsk hby
      cases hsp : isSp ((src[p].toNat : Nat) : Int)
      · go_wp2_with fail
        go_end0
        exact ⟨rfl, v', p, HOwn.out, HR.out.block rfl, below_drewN hb nq, HSk.out, fun _ => by rw [HBy.out]; exact hsp⟩
      · go_wp2_with fail
        go_roundw
        case rel =>
          refine ⟨p + 1, ?_, ?_, ?_, ?_⟩
          · exact ownsRow_setCell_other (w := wr.drewN nq) HOwn.out (HR.out.own_ne HOwn.out) _
          · exact (HR.out.block (w' := wr.drewN nq) rfl).setPos _
          · exact (below_drewN hb nq).setCell hBR _
          · have hs0 := HSk.out
            refine ⟨by have := hs0.le; omega, .inl (by omega), fun i h1 h2 => ?_⟩
            by_cases hi : i = p
            · subst hi
              rw [HBy.out]; exact hsp
            · exact hs0.all i h1 (by omega)
        case measure =>
          have e1 : posOf wr R = p := by simp [posOf, c1, intOf]
          have e2 : posOf ((wr.drewN nq).setCell ⟨R, 1, none⟩ (.int .i64 ((p : Int) + 1))) R = p + 1 := by
            have := ((HR.out.block (w' := wr.drewN nq) rfl).setPos ((p : Int) + 1)).c1
            simp [posOf, this, intOf]
          rw [e1, e2]
          omega
    · have hltI : decide ((p : Int) < (src.size : Int)) = false := by simp; omega
      have HOwn : Hid (wr.ownsRow base 26 2 v' (n + 1) (xs ++ [.string ⟨#[10]⟩, .bool false])) := hown
      have HSk : Hid (Skip src (pos + 1) p) := hsk
      clear hown hsk
      go_wp2_with fail
      go_quiet (fail)
      go_wp2_with fail
      go_end0
      exact ⟨rfl, v', p, HOwn.out, HR.out.block rfl, below_drewN hb nq, HSk.out, fun h => absurd h hlt⟩

end Go.Proofs.Ybulkaqxq

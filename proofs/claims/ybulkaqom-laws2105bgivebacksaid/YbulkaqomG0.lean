/-
  fullTicks and the held keyStates, whatever the generation.
-/
import Derived.Test.YbulkaqomF2
namespace Go.Proofs.Ybulkaqom
open Go.RowKit Go.ChangeMaps

theorem ffind_any (B r : Nat) (wh older : Bool) (base f : Int) (w : World) (h : Full w B r wh older base f) :
    Calls Yba.prog 18 #[.pointer (some ⟨B, 5, none⟩), .string kk] w fun e w' => e = .returned (.tuple #[U f, .bool older, .bool true]) ∧ Below w.heap.size w w' := by
  cases wh <;> cases older
  · exact ffind_near_newer B r base f w h
  · exact ffind_near_older B r base f w h
  · exact ffind_far_newer B r base f w h
  · exact ffind_far_older B r base f w h

theorem flen_any (B r : Nat) (wh older : Bool) (base f : Int) (w : World) (h : Full w B r wh older base f) :
    Calls Yba.prog 19 #[.pointer (some ⟨B, 5, none⟩)] w fun e w' => e = .returned (.int .i64 1) ∧ ∃ q, w' = w.drewN q := by
  cases wh <;> cases older
  · exact flen_near_newer B r base f w h
  · exact flen_near_older B r base f w h
  · exact flen_far_newer B r base f w h
  · exact flen_far_older B r base f w h

theorem fkeep_any (B r : Nat) (wh older : Bool) (base f f' : Int) (w : World) (h : Full w B r wh older base f) (h0 : 0 ≤ f') (h1 : f' < 340282366920938463463374607431768211456) (hn : wh = false → base ≤ f' ∧ f' - base < 9223372036854775808) :
    Calls Yba.prog 35 #[.pointer (some ⟨B, 5, none⟩), .string kk, U f', .bool older] w fun e w' => e = .returned (.tuple #[]) ∧ Full w' B r wh older base f' ∧ Kept (Blk r) w w' := by
  cases wh <;> cases older
  · exact fkeep_near_newer B r base f f' w h h0 h1 hn
  · exact fkeep_near_older B r base f f' w h h0 h1 hn
  · exact fkeep_far_newer B r base f f' w h h0 h1 hn
  · exact fkeep_far_older B r base f f' w h h0 h1 hn

/-- The holdings' keyStates at block B: its one map is block r. -/
structure HeldAt (w : World) (B r : Nat) (older : Bool) : Prop where
  c17 : w.cell? ⟨B, 17, none⟩ = some (.map (if older then none else some r))
  c18 : w.cell? ⟨B, 18, none⟩ = some (.map (if older then some r else none))
  ne : r ≠ B

theorem HeldAt.kept {T : Nat → Nat → Prop} {w w' : World} {B r : Nat} {older : Bool} (h : HeldAt w B r older) (k : Kept T w w') (h1 : ¬ T B 17) (h2 : ¬ T B 18) : HeldAt w' B r older :=
  ⟨(k.cell B 17 (lt_of_cell h.c17) h1).trans h.c17, (k.cell B 18 (lt_of_cell h.c18) h2).trans h.c18, h.ne⟩

theorem hfind_any (B r : Nat) (older : Bool) (v : Value) (w : World) (h : HeldAt w B r older) (hh : Has w r v) :
    Calls Yba.prog 20 #[.pointer (some ⟨B, 17, none⟩), .string kk] w fun e w' => e = .returned (.tuple #[v, .bool older, .bool true]) ∧ w' = w := by
  cases older
  · exact findH_newer B r v w h.c17 hh
  · exact findH_older B r v w h.c17 h.c18 hh

theorem hfind_emp (B r : Nat) (older : Bool) (w : World) (h : HeldAt w B r older) (hh : Emp w r) :
    Calls Yba.prog 20 #[.pointer (some ⟨B, 17, none⟩), .string kk] w fun e w' => e = .returned (.tuple #[.pointer none, .bool false, .bool false]) ∧ w' = w := by
  cases older
  · exact findH_enewer B r w h.c17 h.c18 hh
  · exact findH_eolder B r w h.c17 h.c18 hh

theorem hlen_any (B r n : Nat) (older : Bool) (w : World) (h : HeldAt w B r older) (hh : ∃ es c, w.heap[r]? = some (.map es c) ∧ es.size = n) (hn : n ≤ 1) :
    Calls Yba.prog 21 #[.pointer (some ⟨B, 17, none⟩)] w fun e w' => e = .returned (.int .i64 n) ∧ ∃ q, w' = w.drewN q := by
  cases older
  · exact lenH_newer B r n w h.c17 h.c18 hh hn
  · exact lenH_older B r n w h.c17 h.c18 hh hn

theorem hremove_any (B r : Nat) (older : Bool) (u : Value) (w : World) (h : HeldAt w B r older) (hh : Has w r u) :
    Calls Yba.prog 36 #[.pointer (some ⟨B, 17, none⟩), .string kk, .bool older] w fun e w' => e = .returned (.tuple #[]) ∧ Emp w' r ∧ Kept (Blk r) w w' := by
  cases older
  · exact removeH_newer B r u w h.c17 hh
  · exact removeH_older B r u w h.c18 hh

/-- A holding. -/
structure Holding (w : World) (b : Nat) (n hs lat op : Int) : Prop where
  c0 : w.cell? ⟨b, 0, none⟩ = some (.int .i64 n)
  c1 : w.cell? ⟨b, 1, none⟩ = some (.int .u64 (hiW hs))
  c2 : w.cell? ⟨b, 2, none⟩ = some (.int .u64 (loW hs))
  c3 : w.cell? ⟨b, 3, none⟩ = some (.int .i64 lat)
  c4 : w.cell? ⟨b, 4, none⟩ = some (.int .i64 op)
  z1 : w.frozen? ⟨b, 1, none⟩ = false
  z2 : w.frozen? ⟨b, 2, none⟩ = false
  z4 : w.frozen? ⟨b, 4, none⟩ = false

theorem Holding.kept {T : Nat → Nat → Prop} {w w' : World} {b : Nat} {n hs lat op : Int} (h : Holding w b n hs lat op) (k : Kept T w w') (hT : ∀ o, ¬ T b o) : Holding w' b n hs lat op := by
  have hl : b < w.heap.size := lt_of_cell h.c0
  exact ⟨(k.cell b 0 hl (hT 0)).trans h.c0, (k.cell b 1 hl (hT 1)).trans h.c1, (k.cell b 2 hl (hT 2)).trans h.c2, (k.cell b 3 hl (hT 3)).trans h.c3, (k.cell b 4 hl (hT 4)).trans h.c4, (k.frozen b 1 hl).trans h.z1, (k.frozen b 2 hl).trans h.z2, (k.frozen b 4 hl).trans h.z4⟩

/-- The whole: buckets B, its ticks' map r, its holdings' map r2, its holding h. -/
structure Bk (w : World) (B r r2 hb : Nat) (wh older : Bool) (base f : Int) (pn pu : Nat) (n hs lat op : Int) : Prop where
  full : Full w B r wh older base f
  held : HeldAt w B r2 older
  has : Has w r2 (.pointer (some ⟨hb, 0, none⟩))
  hold : Holding w hb n hs lat op
  c14 : w.cell? ⟨B, 14, none⟩ = some (.int .u64 pn)
  c15 : w.cell? ⟨B, 15, none⟩ = some (.int .u64 pu)
  n1 : r2 ≠ r
  n2 : hb ≠ r
  n3 : hb ≠ r2
  n4 : hb ≠ B

theorem Bk.below {w w' : World} {B r r2 hb : Nat} {wh older : Bool} {base f : Int} {pn pu : Nat} {n hs lat op : Int} (h : Bk w B r r2 hb wh older base f pn pu n hs lat op) (k : Below w.heap.size w w') : Bk w' B r r2 hb wh older base f pn pu n hs lat op := by
  have kk : Kept Nothing w w' := Kept.of_below k
  exact ⟨h.full.below k, h.held.kept kk (fun x => x) (fun x => x), h.has.kept kk (fun _ x => x), h.hold.kept kk (fun _ x => x), (kk.cell B 14 (lt_of_cell h.c14) (fun x => x)).trans h.c14, (kk.cell B 15 (lt_of_cell h.c15) (fun x => x)).trans h.c15, h.n1, h.n2, h.n3, h.n4⟩

end Go.Proofs.Ybulkaqom

/-
  (*laneWalk).take.
-/
import Derived.Test.YbulkaqnyLeaf
import Derived.Test.YbulkaqnyBits
namespace Go.Proofs.Ybulkaqny
open Go.RowKit

/-- A pointer to request i of the row in block br; nil. -/
def adr (br : Nat) (o : Option Nat) : Option Addr := o.map fun i => ⟨br, i * 13, none⟩

/-- A walk over lanes in memory: the walk's struct in block bw, the lock's in bl, the n requests' row in br; 'lk' is the link that the walk follows, A the front of each lane, L the lanes that are left. -/
structure Walk (w : World) (bw bl br n : Nat) (md : Nat → Nat) (back : Bool) (lk : Nat → Option Nat) (A : Nat → Option Nat) (L : Nat) : Prop where
  lock : w.cell? ⟨bw, 0, none⟩ = some (.pointer (some ⟨bl, 0, none⟩))
  fronts : ∀ m, m < 6 → w.cell? ⟨bw, 1 + m, none⟩ = some (.pointer (adr br (A m)))
  left : w.cell? ⟨bw, 7, none⟩ = some (.int .u8 L)
  bk : w.cell? ⟨bw, 8, none⟩ = some (.bool back)
  fr : ∀ j, w.frozen? ⟨bw, j, none⟩ = false
  ord : w.cell? ⟨bl, 61, none⟩ = some (.int .u8 0)
  mode : ∀ i, i < n → w.cell? ⟨br, i * 13 + 3, none⟩ = some (.int .u8 (md i))
  conv : ∀ i, i < n → w.cell? ⟨br, i * 13 + 4, none⟩ = some (.bool false)
  arr : ∀ i, i < n → w.cell? ⟨br, i * 13 + 12, none⟩ = some (.int .u64 ((i : Int) + 1))
  wn : ∀ i, i < n → w.cell? ⟨br, i * 13 + 11, none⟩ = some (.pointer (adr br (if back then none else lk i)))
  lp : back = true → ∀ i, i < n → w.cell? ⟨br, i * 13 + 8, none⟩ = some (.pointer (adr br (lk i)))
  lt : L < 64
  bit : ∀ m, m < 6 → L.testBit m = (A m).isSome
  inb : ∀ m j, A m = some j → j < n ∧ md j = m
  mdr : ∀ i, i < n → 1 ≤ md i ∧ md i ≤ 5
  lkm : ∀ i j, i < n → lk i = some j → j < n ∧ md j = md i
  ne1 : bw ≠ br
  ne2 : bw ≠ bl
  szw : bw < w.heap.size
  szr : br < w.heap.size
  szl : bl < w.heap.size

/-- The best of the first t fronts. -/
def Best (back : Bool) (A : Nat → Option Nat) (t : Nat) : Option Nat → Prop
  | none => ∀ m, m < t → A m = none
  | some f => (∃ m, m < t ∧ A m = some f) ∧ ∀ m, m < t → ∀ x, A m = some x → if back then x ≤ f else f ≤ x

theorem best_start (back : Bool) (A : Nat → Option Nat) : Best back A 0 none := fun m hm => by omega

/-- On to the next lane that is left. -/
theorem best_step {back : Bool} {A : Nat → Option Nat} {t m j : Nat} {o : Option Nat} {f : Nat} (h : Best back A t o) (htm : t ≤ m) (hn : ∀ x, t ≤ x → x < m → A x = none) (hj : A m = some j)
    (hf : (o = none ∧ f = j) ∨ ∃ f0, o = some f0 ∧ if back then (f0 ≤ j ∧ f = j) ∨ (j < f0 ∧ f = f0) else (j < f0 ∧ f = j) ∨ (f0 ≤ j ∧ f = f0)) : Best back A (m + 1) (some f) := by
  rcases hf with ⟨rfl, rfl⟩ | ⟨f0, rfl, hf⟩
  · refine ⟨⟨m, by omega, hj⟩, fun m' hm' x hx => ?_⟩
    rcases Nat.lt_or_ge m' t with c | c
    · rw [h m' c] at hx; cases hx
    · rcases Nat.lt_or_ge m' m with d | d
      · rw [hn m' c d] at hx; cases hx
      · obtain rfl : m' = m := by omega
        rw [hj] at hx
        cases hx
        cases back <;> simp
  · obtain ⟨⟨m0, hm0, hA0⟩, hall⟩ := h
    cases back
    · simp only [Bool.false_eq_true, if_false] at hf hall ⊢
      refine ⟨?_, fun m' hm' x hx => ?_⟩
      · rcases hf with ⟨_, rfl⟩ | ⟨_, rfl⟩
        · exact ⟨m, by omega, hj⟩
        · exact ⟨m0, by omega, hA0⟩
      · simp only [Bool.false_eq_true, if_false]
        rcases Nat.lt_or_ge m' t with c | c
        · have := hall m' c x hx; omega
        · rcases Nat.lt_or_ge m' m with d | d
          · rw [hn m' c d] at hx; cases hx
          · obtain rfl : m' = m := by omega
            rw [hj] at hx
            cases hx
            omega
    · simp only [if_true] at hf hall ⊢
      refine ⟨?_, fun m' hm' x hx => ?_⟩
      · rcases hf with ⟨_, rfl⟩ | ⟨_, rfl⟩
        · exact ⟨m, by omega, hj⟩
        · exact ⟨m0, by omega, hA0⟩
      · simp only [if_true]
        rcases Nat.lt_or_ge m' t with c | c
        · have := hall m' c x hx; omega
        · rcases Nat.lt_or_ge m' m with d | d
          · rw [hn m' c d] at hx; cases hx
          · obtain rfl : m' = m := by omega
            rw [hj] at hx
            cases hx
            omega

theorem best_end {back : Bool} {A : Nat → Option Nat} {t : Nat} {o : Option Nat} (h : Best back A t o) (ht : t ≤ 6) (hn : ∀ x, x < 6 → t ≤ x → A x = none) : Best back A 6 o := by
  cases o with
  | none =>
    intro m hm
    rcases Nat.lt_or_ge m t with c | c
    · exact h m c
    · exact hn m hm c
  | some f =>
    obtain ⟨⟨m0, h1, h2⟩, h3⟩ := h
    refine ⟨⟨m0, by omega, h2⟩, fun m hm x hx => ?_⟩
    rcases Nat.lt_or_ge m t with c | c
    · exact h3 m c x hx
    · rw [hn m hm c] at hx; cases hx

theorem Walk.drewN {w : World} {bw bl br n : Nat} {md : Nat → Nat} {back : Bool} {lk A : Nat → Option Nat} {L : Nat} (h : Walk w bw bl br n md back lk A L) (q : Nat) : Walk (w.drewN q) bw bl br n md back lk A L :=
  ⟨h.lock, h.fronts, h.left, h.bk, h.fr, h.ord, h.mode, h.conv, h.arr, h.wn, h.lp, h.lt, h.bit, h.inb, h.mdr, h.lkm, h.ne1, h.ne2, h.szw, h.szr, h.szl⟩

/-- What 'take' has found. -/
def Found (br : Nat) (back : Bool) (A : Nat → Option Nat) (t : Nat) (v : Value) : Prop := (v = .pointer none ∧ Best back A t none) ∨ ∃ f, v = .pointer (some ⟨br, f * 13, none⟩) ∧ Best back A t (some f)

/-- The fronts behind a step that took f. -/
def past (md : Nat → Nat) (lk A : Nat → Option Nat) (f m : Nat) : Option Nat := if m = md f then lk f else A m
/-- The lanes that are left behind it. -/
def leftPast (md : Nat → Nat) (lk : Nat → Option Nat) (L f : Nat) : Nat := if lk f = none then clr L (md f) else L

theorem Walk.turn {w W : World} {bw bl br n : Nat} {md : Nat → Nat} {back : Bool} {lk A : Nat → Option Nat} {L f : Nat} (h : Walk w bw bl br n md back lk A L) (hf : f < n) (hAf : A (md f) ≠ none) (hK : Kept (fun x _ => x = bw) w W)
    (c0 : W.cell? ⟨bw, 0, none⟩ = w.cell? ⟨bw, 0, none⟩) (c1 : ∀ m, m < 6 → m ≠ md f → W.cell? ⟨bw, 1 + m, none⟩ = w.cell? ⟨bw, 1 + m, none⟩) (c2 : W.cell? ⟨bw, 1 + md f, none⟩ = some (.pointer (adr br (lk f))))
    (c3 : W.cell? ⟨bw, 7, none⟩ = some (.int .u8 (leftPast md lk L f))) (c4 : W.cell? ⟨bw, 8, none⟩ = w.cell? ⟨bw, 8, none⟩) : Walk W bw bl br n md back lk (past md lk A f) (leftPast md lk L f) := by
  obtain ⟨r1, r2⟩ := h.mdr f hf
  have hne1 := h.ne1
  have hne2 := h.ne2
  have kr : ∀ j, W.cell? ⟨br, j, none⟩ = w.cell? ⟨br, j, none⟩ := fun j => hK.cell br j h.szr (fun e => hne1 e.symm)
  refine ⟨c0.trans h.lock, fun m hm => ?_, c3, c4.trans h.bk, fun j => (hK.frozen bw j h.szw).trans (h.fr j), (hK.cell bl 61 h.szl (fun e => hne2 e.symm)).trans h.ord, fun i hi => (kr _).trans (h.mode i hi), fun i hi => (kr _).trans (h.conv i hi),
    fun i hi => (kr _).trans (h.arr i hi), fun i hi => (kr _).trans (h.wn i hi), fun hb i hi => (kr _).trans (h.lp hb i hi), ?_, fun m hm => ?_, fun m j hj => ?_, h.mdr, h.lkm, hne1, hne2, Nat.lt_of_lt_of_le h.szw hK.size, Nat.lt_of_lt_of_le h.szr hK.size, Nat.lt_of_lt_of_le h.szl hK.size⟩
  · unfold past
    by_cases e : m = md f
    · rw [if_pos e, e]; exact c2
    · rw [if_neg e]; exact (c1 m hm e).trans (h.fronts m hm)
  · unfold leftPast
    split
    · exact (clr_of h.lt (by omega)).2.1
    · exact h.lt
  · have hb := h.bit m hm
    unfold leftPast past
    by_cases e : lk f = none
    · rw [if_pos e, (clr_of h.lt (by omega)).2.2 m hm, hb]
      by_cases e2 : m = md f
      · simp [e2, e]
      · simp [e2]
    · rw [if_neg e, hb]
      by_cases e2 : m = md f
      · rw [if_pos e2, e2]
        cases hA : A (md f) with
        | none => exact absurd hA hAf
        | some x =>
          cases hk : lk f with
          | none => exact absurd hk e
          | some y => rfl
      · rw [if_neg e2]
  · unfold past at hj
    by_cases e : m = md f
    · rw [if_pos e] at hj
      obtain ⟨a, b⟩ := h.lkm f j hf hj
      exact ⟨a, b.trans e.symm⟩
    · rw [if_neg e] at hj
      exact h.inb m j hj

set_option maxHeartbeats 400000 in
theorem stop_any (bw m L : Nat) (v : Value) (w : World) (hm : m < 6) (hc : w.cell? ⟨bw, 1 + m, none⟩ = some v) (hl : w.cell? ⟨bw, 7, none⟩ = some (.int .u8 L)) (hf : ∀ j, w.frozen? ⟨bw, j, none⟩ = false) :
    Calls Yba.prog 10 #[.pointer (some ⟨bw, 0, none⟩), .int .u8 m] w fun e w' => e = .returned (.tuple #[]) ∧ w' = (w.setCell ⟨bw, 1 + m, none⟩ (.pointer none)).setCell ⟨bw, 7, none⟩ (.int .u8 (bits BinOp.andNot .u8 L (2 ^ m % 256))) := by
  have hf1 := hf (1 + m)
  have hf7 := hf 7
  have hm1 : (0 : Int) ≤ (m : Int) := by omega
  have hm2 : (m : Int) < 6 := by omega
  clear hf
  go_enter Yba.func10, Yba.ntmps10
  go_wp2_with (go_at_call 12; refine (without_any L m _ hm).mono ?_; rintro e w' ⟨rfl, rfl⟩)
  go_end0
  exact ⟨rfl, rfl⟩

/-- What 'take' owes. -/
def Taken (w : World) (bw bl br n : Nat) (md : Nat → Nat) (back : Bool) (lk A : Nat → Option Nat) (L : Nat) (e : Ending) (w' : World) : Prop :=
  (e = .returned (.pointer none) ∧ Best back A 6 none ∧ ∃ q, w' = w.drewN q) ∨
  ∃ f, e = .returned (.pointer (some ⟨br, f * 13, none⟩)) ∧ Best back A 6 (some f) ∧ Walk w' bw bl br n md back lk (past md lk A f) (leftPast md lk L f) ∧ Kept (fun x _ => x = bw) w w'

theorem ne_of {b o o' : Nat} (h : o ≠ o') : (⟨b, o, none⟩ : Addr) ≠ ⟨b, o', none⟩ := by
  intro e; injection e with _ e2; exact h e2

/-- The step's end where the lane goes on. -/
theorem fin_some {w wr : World} {bw bl br n : Nat} {md : Nat → Nat} {back : Bool} {lk A : Nat → Option Nat} {L f g q : Nat} (hq : Walk wr bw bl br n md back lk A L) (hwr : wr = w.drewN q) (hf : f < n) (hAf : A (md f) ≠ none) (hb : Best back A 6 (some f)) (hlk : lk f = some g) :
    Taken w bw bl br n md back lk A L (.returned (.pointer (some ⟨br, f * 13, none⟩))) (wr.setCell ⟨bw, 1 + md f, none⟩ (.pointer (some ⟨br, g * 13, none⟩))).drew := by
  obtain ⟨r1, r2⟩ := hq.mdr f hf
  have hK : Kept (fun x _ => x = bw) wr (wr.setCell ⟨bw, 1 + md f, none⟩ (.pointer (some ⟨br, g * 13, none⟩))).drew := ((Kept.refl (fun x _ => x = bw) wr).setCell (.inl rfl) _).drew
  have hL : leftPast md lk L f = L := by unfold leftPast; rw [hlk]; simp
  refine .inr ⟨f, rfl, hb, ?_, ?_⟩
  · refine hq.turn hf hAf hK ?_ (fun m hm hne => ?_) ?_ ?_ ?_
    · exact World.cell?_setCell_other wr _ _ _ (ne_of (by omega))
    · exact World.cell?_setCell_other wr _ _ _ (ne_of (by omega))
    · rw [hlk]
      exact cell_set_same (hq.fronts (md f) (by omega))
    · rw [hL]
      exact (World.cell?_setCell_other wr _ _ _ (ne_of (by omega))).trans hq.left
    · exact World.cell?_setCell_other wr _ _ _ (ne_of (by omega))
  · have hw : Kept (fun x _ => x = bw) w wr := hwr ▸ (Kept.refl _ w).drewN q
    exact hw.trans hK

/-- The world behind the last request of a lane. -/
def lastWorld (wr : World) (bw m L : Nat) : World := (((wr.setCell ⟨bw, 1 + m, none⟩ (.pointer none)).drew.setCell ⟨bw, 1 + m, none⟩ (.pointer none)).setCell ⟨bw, 7, none⟩ (.int .u8 (bits BinOp.andNot .u8 L (2 ^ m % 256))))

theorem stop_last {wr : World} {bw bl br n : Nat} {md : Nat → Nat} {back : Bool} {lk A : Nat → Option Nat} {L m : Nat} (hq : Walk wr bw bl br n md back lk A L) (hm : 1 ≤ m ∧ m ≤ 5) :
    Calls Yba.prog 10 #[.pointer (some ⟨bw, 0, none⟩), .int .u8 m] (wr.setCell ⟨bw, 1 + m, none⟩ (.pointer none)).drew fun e w' => e = .returned (.tuple #[]) ∧ w' = lastWorld wr bw m L :=
  stop_any bw m L (.pointer none) _ (by omega) (cell_set_same (hq.fronts m (by omega))) ((World.cell?_setCell_other wr _ _ _ (ne_of (by omega))).trans hq.left) (fun j => (World.frozen?_setCell wr _ _ _).trans (hq.fr j))

/-- The step's end where the lane ends. -/
theorem fin_none {w wr : World} {bw bl br n : Nat} {md : Nat → Nat} {back : Bool} {lk A : Nat → Option Nat} {L f q : Nat} (hq : Walk wr bw bl br n md back lk A L) (hwr : wr = w.drewN q) (hf : f < n) (hAf : A (md f) ≠ none) (hb : Best back A 6 (some f)) (hlk : lk f = none) :
    Taken w bw bl br n md back lk A L (.returned (.pointer (some ⟨br, f * 13, none⟩))) (lastWorld wr bw (md f) L) := by
  obtain ⟨r1, r2⟩ := hq.mdr f hf
  have hK : Kept (fun x _ => x = bw) wr (lastWorld wr bw (md f) L) := ((((Kept.refl (fun x _ => x = bw) wr).setCell (.inl rfl) _).drew).setCell (.inl rfl) _).setCell (.inl rfl) _
  have hL : leftPast md lk L f = clr L (md f) := by unfold leftPast; rw [hlk]; simp
  have hbits := (clr_of hq.lt (show md f < 6 by omega)).1
  refine .inr ⟨f, rfl, hb, ?_, ?_⟩
  · refine hq.turn hf hAf hK ?_ (fun m hm hne => ?_) ?_ ?_ ?_
    · exact (World.cell?_setCell_other _ _ _ _ (ne_of (by omega))).trans ((World.cell?_setCell_other _ _ _ _ (ne_of (by omega))).trans (World.cell?_setCell_other wr _ _ _ (ne_of (by omega))))
    · exact (World.cell?_setCell_other _ _ _ _ (ne_of (by omega))).trans ((World.cell?_setCell_other _ _ _ _ (ne_of (by omega))).trans (World.cell?_setCell_other wr _ _ _ (ne_of (by omega))))
    · rw [hlk]
      exact (World.cell?_setCell_other _ _ _ _ (ne_of (by omega))).trans (cell_set_same (u := .pointer none) (cell_set_same (hq.fronts (md f) (by omega))))
    · rw [hL, ← hbits]
      exact cell_set_same (u := .int .u8 L) ((World.cell?_setCell_other _ _ _ _ (ne_of (by omega))).trans ((World.cell?_setCell_other wr _ _ _ (ne_of (by omega))).trans hq.left))
    · exact (World.cell?_setCell_other _ _ _ _ (ne_of (by omega))).trans ((World.cell?_setCell_other _ _ _ _ (ne_of (by omega))).trans (World.cell?_setCell_other wr _ _ _ (ne_of (by omega))))
  · have hw : Kept (fun x _ => x = bw) w wr := hwr ▸ (Kept.refl _ w).drewN q
    exact hw.trans hK

set_option maxHeartbeats 1000000 in
theorem take_fwd {w : World} {bw bl br n : Nat} {md : Nat → Nat} {lk A : Nat → Option Nat} {L : Nat} (h : Walk w bw bl br n md false lk A L) :
    Calls Yba.prog 6 #[.pointer (some ⟨bw, 0, none⟩)] w (Taken w bw bl br n md false lk A L) := by
  have hleft := h.left
  go_enter Yba.func6, Yba.ntmps6
  go_wp2_with fail
  go_loopw [3, 4] (fun a l wr => ∃ (t q : Nat), t ≤ 6 ∧ l = .int .u8 (hiOf L t) ∧ Found br false A t a ∧ wr = w.drewN q) (fun _ l _ => (intOf l).toNat)
  case atStart => exact ⟨0, 0, by omega, by simp [hiOf], .inl ⟨rfl, best_start _ _⟩, rfl⟩
  case round =>
    obtain ⟨t, q, ht, rfl, hfound, hwr⟩ := hrel
    have hq : Walk wr bw bl br n md false lk A L := hwr ▸ h.drewN q
    have HW : Hid (wr = w.drewN q) := hwr
    clear hwr hleft
    have hL := h.lt
    obtain ⟨hc64, hce⟩ := end_of hL ht
    by_cases hc : hiOf L t = 0
    · have hend : ∀ x, x < 6 → t ≤ x → A x = none := fun x h1 h2 => by
        have := h.bit x h1
        rw [hce hc x h1 h2] at this
        exact Option.not_isSome_iff_eq_none.1 (by rw [← this]; simp)
      rw [hc]
      rcases hfound with ⟨rfl, hbest⟩ | ⟨f, rfl, hbest⟩
      · have hb := best_end hbest ht hend
        clear hbest hend hce
        go_wp2_with fail
        go_ret
        exact .inl ⟨rfl, hb, q, HW.out⟩
      · have hb := best_end hbest ht hend
        obtain ⟨⟨m0, hm0, hA0⟩, _⟩ := hbest
        obtain ⟨hfn, hfm⟩ := h.inb m0 f hA0
        subst hfm
        obtain ⟨hr1, hr2⟩ := h.mdr f hfn
        have hAf : A (md f) ≠ none := by rw [hA0]; simp
        have hbk := hq.bk
        have hmode := hq.mode f hfn
        have hfr := hq.fr (1 + md f)
        have hfm' := hq.fronts (md f) (by omega)
        obtain ⟨v, hv⟩ : ∃ v, wr.cell? ⟨bw, 1 + md f, none⟩ = some v := ⟨_, hfm'⟩
        have hwn := hq.wn f hfn
        simp only [Bool.false_eq_true, if_false] at hwn
        have hm1 : (0 : Int) ≤ (md f : Int) := by omega
        have hm2 : (md f : Int) < 6 := by omega
        have hn1 : ¬ (bw = br) := hq.ne1
        have hn2 : ¬ (br = bw) := fun e => hq.ne1 e.symm
        clear hfm' hend hce
        cases hlk : lk f with
        | none =>
          rw [hlk] at hwn
          have hwn' : wr.cell? ⟨br, f * 13 + 11, none⟩ = some (.pointer none) := hwn
          clear hwn
          have fin := fin_none hq HW.out hfn hAf hb hlk
          have HS := stop_last hq ⟨hr1, hr2⟩
          clear hlk
          go_wp2_with fail
          go_region
          go_wp2_with fail
          refine HS.mono ?_
          rintro e w5 ⟨rfl, hw5⟩
          subst w5
          generalize lastWorld wr bw (md f) L = w5 at *
          go_wp2_with fail
          go_ret
          exact fin
        | some g =>
          rw [hlk] at hwn
          have hwn' : wr.cell? ⟨br, f * 13 + 11, none⟩ = some (.pointer (some ⟨br, g * 13, none⟩)) := hwn
          have fin := fin_some hq HW.out hfn hAf hb hlk
          clear hwn hlk
          go_wp2_with fail
          go_region
          go_wp2_with fail
          go_ret
          exact fin
    · obtain ⟨m, hm, htm, hm6, hbit, hno, hand, hless⟩ := low_of hL ht hc
      obtain ⟨j, hj⟩ : ∃ j, A m = some j := by
        have := h.bit m hm6
        rw [hbit] at this
        exact Option.isSome_iff_exists.1 this.symm
      have hfront : wr.cell? ⟨bw, 1 + m, none⟩ = some (.pointer (some ⟨br, j * 13, none⟩)) := by
        have := hq.fronts m hm6
        rw [hj] at this
        exact this
      obtain ⟨hjn, hjm⟩ := h.inb m j hj
      have hno' : ∀ x, t ≤ x → x < m → A x = none := fun x h1 h2 => by
        have := h.bit x (by omega)
        rw [hno x (by omega) h1 h2] at this
        exact Option.not_isSome_iff_eq_none.1 (by rw [← this]; simp)
      have HA : Hid (bits BinOp.and .u8 (hiOf L t : Int) ((hiOf L t : Int) - 1) = ((hiOf L (m + 1) : Nat) : Int)) := hand
      have step := fun f hf => best_step (back := false) (o := none) (f := f) (t := t) (A := A) (j := j) (m := m) hf
      clear step hand hce hbit hno
      generalize hiOf L t = c at *
      have hc0 : ((c : Int) == 0) = false := by simp; omega
      have hcn : ((c : Int) != 0) = true := by simp; omega
      have HTZ : ∀ W, Calls Yba.prog 8 #[.int .u8 (c : Int)] W fun e w' => e = .returned (.int .i64 m) ∧ w' = W := fun W => by
        have := Yba.bits_TrailingZeros8 (c : Int) W (by omega) (by omega)
        rw [Int.toNat_natCast, hm] at this
        exact this
      have HM : Hid (Lib.trailingZeros8 c = m) := hm
      clear hm
      rcases hfound with ⟨rfl, hbest⟩ | ⟨f, rfl, hbest⟩
      · have hb := best_step hbest htm hno' hj (.inl ⟨rfl, rfl⟩)
        clear hbest
        go_wp2_with fail
        go_quiet ((go_at_call 8; exact Calls.quiet_of_same (HTZ _)))
        go_wp2_with fail
        go_quiet (fail)
        go_wp2_with fail
        go_roundw
        case rel => exact ⟨m + 1, _, by omega, by rw [HA.out], .inr ⟨j, rfl, hb⟩, by rw [HW.out]; exact World.drewN_drewN _ _ _⟩
        case measure => rw [HA.out]; simp [intOf]; omega
      · obtain ⟨m0, hm0, hA0⟩ := hbest.1
        obtain ⟨hfn, _⟩ := h.inb m0 f hA0
        have hne : f ≠ j := fun e => by
          subst e
          have a := (h.inb m0 f hA0).2
          omega
        rcases Nat.lt_or_ge j f with hjf | hjf
        · have hb := best_step (f := j) hbest htm hno' hj (.inr ⟨f, rfl, by simp; omega⟩)
          have hd : decide ((j : Int) < (f : Int)) = true := by simp; omega
          clear hbest
          go_wp2_with fail
          go_quiet ((go_at_call 8; exact Calls.quiet_of_same (HTZ _)))
          obtain ⟨w2, hw2⟩ : ∃ w2, w2 = wr.drewN nq := ⟨_, rfl⟩
          rw [← hw2]
          have hq2 : Walk w2 bw bl br n md false lk A L := hw2 ▸ hq.drewN nq
          have HW2 : Hid (w2 = w.drewN (q + nq)) := by show _ = _; rw [hw2, HW.out]; exact World.drewN_drewN _ _ _
          have hlk := hq2.lock
          have hbk := hq2.bk
          have a1 := hq2.ord
          have a2 := hq2.conv j hjn
          have a3 := hq2.conv f hfn
          have a4 := hq2.arr j hjn
          have a5 := hq2.arr f hfn
          clear hw2 hq hfront
          go_wp2_with fail
          go_quiet ((go_at_call 9; exact Calls.quiet_of (ahead_any bl br (j * 13) (f * 13) j f _ a1 a2 a3 a4 a5)))
          go_wp2_with fail
          go_roundw
          case rel => exact ⟨m + 1, _, by omega, by rw [HA.out], .inr ⟨j, rfl, hb⟩, by rw [HW2.out]; exact World.drewN_drewN _ _ _⟩
          case measure => rw [HA.out]; simp [intOf]; omega
        · have hb := best_step (f := f) hbest htm hno' hj (.inr ⟨f, rfl, by simp; omega⟩)
          have hd : decide ((j : Int) < (f : Int)) = false := by simp; omega
          clear hbest
          go_wp2_with fail
          go_quiet ((go_at_call 8; exact Calls.quiet_of_same (HTZ _)))
          obtain ⟨w2, hw2⟩ : ∃ w2, w2 = wr.drewN nq := ⟨_, rfl⟩
          rw [← hw2]
          have hq2 : Walk w2 bw bl br n md false lk A L := hw2 ▸ hq.drewN nq
          have HW2 : Hid (w2 = w.drewN (q + nq)) := by show _ = _; rw [hw2, HW.out]; exact World.drewN_drewN _ _ _
          have hlk := hq2.lock
          have hbk := hq2.bk
          have a1 := hq2.ord
          have a2 := hq2.conv j hjn
          have a3 := hq2.conv f hfn
          have a4 := hq2.arr j hjn
          have a5 := hq2.arr f hfn
          clear hw2 hq hfront
          go_wp2_with fail
          go_quiet ((go_at_call 9; exact Calls.quiet_of (ahead_any bl br (j * 13) (f * 13) j f _ a1 a2 a3 a4 a5)))
          go_wp2_with fail
          go_roundw
          case rel => exact ⟨m + 1, _, by omega, by rw [HA.out], .inr ⟨f, rfl, hb⟩, by rw [HW2.out]; exact World.drewN_drewN _ _ _⟩
          case measure => rw [HA.out]; simp [intOf]; omega
end Go.Proofs.Ybulkaqny

/-
  LawS2105BGiveBack, walked.
-/
import Derived.Test.YbulkaqomB0
namespace Go.Proofs.Ybulkaqom
open Go.RowKit Go.ChangeMaps

set_option maxRecDepth 100000 in
set_option maxHeartbeats 8000000 in
theorem give_law (sp p la gap ex si op pu : Nat) (n lat lt full T ms hs : Int) (wh ol mis : Bool) (w : World) (h0 : (sp : Int) ≤ 4294967295) (h1 : (p : Int) ≤ 65535) (h2 : (la : Int) ≤ 4294967295) (h3 : (gap : Int) ≤ 4294967295) (h4 : (ex : Int) ≤ 4294967295) (h5 : (si : Int) ≤ 4294967295) (h6 : (op : Int) ≤ 255)
    (hpu : (p : Int) + 1 = (pu : Int)) (hlat : -(la : Int) - 1 = lat) (hlt : bits .xor .u64 (IntKind.u64.wrap lat) 9223372036854775808 = lt) (hfull : IntKind.u64.wrap (lt + gap) = full) (hT : IntKind.u64.wrap ((sp : Int) * (pu : Int)) = T) (hms : IntKind.u64.wrap (T + ex) = ms) (hhs : IntKind.u64.wrap (ms + si) = hs)
    (Elt : Hid (lt = lat + 9223372036854775808)) (Efull : Hid (full = lt + gap)) (ET : Hid (T = (sp : Int) * (pu : Int))) (Ems : Hid (ms = T + ex)) (Ehs : Hid (hs = ms + si)) (BT : Hid (0 ≤ T ∧ T < 9223372036854775808)) (Blat : Hid (-4294967296 ≤ lat ∧ lat ≤ -1)) :
    Calls Yba.prog 5 #[.int .u32 sp, .int .u16 p, .int .u32 la, .int .u32 gap, .int .u32 ex, .int .u32 si, .int .u8 op, .int .i64 n, .bool wh, .bool ol, .bool mis] w fun e w' => e = .returned (.bool true) ∧ Below w.heap.size w w' := by
  have Bf : Hid (0 ≤ lt ∧ lt ≤ full ∧ full < 18446744073709551616 ∧ full - lt = gap) := by
    have := Elt.out; have := Efull.out; have := Blat.out
    exact (by omega : 0 ≤ lt ∧ lt ≤ full ∧ full < 18446744073709551616 ∧ full - lt = gap)
  have Fh : Hid (hiW full = 0 ∧ loW full = full) := by
    have := Bf.out
    exact (by unfold hiW loW; omega : hiW full = 0 ∧ loW full = full)
  have Sh : Hid (hiW hs = 0 ∧ loW hs = hs) := by
    have := Ehs.out; have := Ems.out; have := BT.out
    exact (by unfold hiW loW; omega : hiW hs = 0 ∧ loW hs = hs)
  have Lh : Hid (hiW lt = 0 ∧ loW lt = lt) := by
    have := Bf.out
    exact (by unfold hiW loW; omega : hiW lt = 0 ∧ loW lt = lt)
  go_enter Yba.func5, Yba.ntmps5
  go_upto_if 79 with fail
  go_cut [32] (fun _ wc => ∃ (r : Nat) (base : Int), Full wc w.heap.size r wh ol base full ∧ (wh = false → base = lt) ∧ wc.cell? ⟨w.heap.size, 14, none⟩ = some (.int .u64 1) ∧ wc.cell? ⟨w.heap.size, 15, none⟩ = some (.int .u64 pu) ∧ wc.cell? ⟨w.heap.size, 17, none⟩ = some (.map none) ∧ wc.cell? ⟨w.heap.size, 18, none⟩ = some (.map none) ∧ wc.frozen? ⟨w.heap.size, 17, none⟩ = false ∧ wc.frozen? ⟨w.heap.size, 18, none⟩ = false ∧ Below w.heap.size w wc ∧ w.heap.size ≤ r)
  case first =>
    cases wh <;> cases ol
    · as_aux_lemma =>
        go_wp2_with fail
        refine (keepI_first_newer w.heap.size gap _ (by simp [go_sem]) (by simp [go_sem])).mono ?_
        rintro e w1 ⟨rfl, r, hr, hh, hc, hk⟩
        have C := fun j (hj : j ≠ 5) => hk.cell w.heap.size j (by first | (simp; done) | (simp; omega)) (fun x => hj x.2)
        have Z := fun j => hk.frozen w.heap.size j (by first | (simp; done) | (simp; omega))
        have hs0 := hk.size
        as_aux_lemma =>
          go_wp2_with fail
          go_meet
          refine ⟨r, lt, ⟨hc, (C 6 (by decide)).trans (by simp [go_sem]), (C 7 (by decide)).trans (by simp [go_sem]), (C 8 (by decide)).trans (by simp [go_sem]), (C 9 (by decide)).trans (by simp [go_sem]), fun _ => by have := Lh.out; rw [this.1]; exact (C 10 (by decide)).trans (by simp [go_sem]), fun _ => by have := Lh.out; rw [this.2]; exact (C 11 (by decide)).trans (by simp [go_sem]), fun _ => by have := Bf.out; omega, by have := Bf.out; show Has _ r (.int .i64 (full - lt)); rw [this.2.2.2]; exact hh, by have := Bf.out; omega, by have := Bf.out; omega, by simp at hr; omega⟩, fun _ => rfl, (C 14 (by decide)).trans (by simp [go_sem]), (C 15 (by decide)).trans (by simp [go_sem]), (C 17 (by decide)).trans (by simp [go_sem]), (C 18 (by decide)).trans (by simp [go_sem]), (Z 17).trans (by simp [go_sem]), (Z 18).trans (by simp [go_sem]), ?_, by simp at hr; omega⟩
          refine Below.trans ?_ (hk.below (fun k o hk2 x => by have := x.1; omega) (by first | (simp; done) | (simp; omega)))
          exact ((Below.refl w.heap.size w).alloc (Nat.le_refl _) _).alloc (by simp) _
    · as_aux_lemma =>
        go_wp2_with fail
        refine (keepI_first_older w.heap.size gap _ (by simp [go_sem]) (by simp [go_sem])).mono ?_
        rintro e w1 ⟨rfl, r, hr, hh, hc, hk⟩
        have C := fun j (hj : j ≠ 6) => hk.cell w.heap.size j (by first | (simp; done) | (simp; omega)) (fun x => hj x.2)
        have Z := fun j => hk.frozen w.heap.size j (by first | (simp; done) | (simp; omega))
        have hs0 := hk.size
        as_aux_lemma =>
          go_wp2_with fail
          go_meet
          refine ⟨r, lt, ⟨(C 5 (by decide)).trans (by simp [go_sem]), hc, (C 7 (by decide)).trans (by simp [go_sem]), (C 8 (by decide)).trans (by simp [go_sem]), (C 9 (by decide)).trans (by simp [go_sem]), fun _ => by have := Lh.out; rw [this.1]; exact (C 12 (by decide)).trans (by simp [go_sem]), fun _ => by have := Lh.out; rw [this.2]; exact (C 13 (by decide)).trans (by simp [go_sem]), fun _ => by have := Bf.out; omega, by have := Bf.out; show Has _ r (.int .i64 (full - lt)); rw [this.2.2.2]; exact hh, by have := Bf.out; omega, by have := Bf.out; omega, by simp at hr; omega⟩, fun _ => rfl, (C 14 (by decide)).trans (by simp [go_sem]), (C 15 (by decide)).trans (by simp [go_sem]), (C 17 (by decide)).trans (by simp [go_sem]), (C 18 (by decide)).trans (by simp [go_sem]), (Z 17).trans (by simp [go_sem]), (Z 18).trans (by simp [go_sem]), ?_, by simp at hr; omega⟩
          refine Below.trans ?_ (hk.below (fun k o hk2 x => by have := x.1; omega) (by first | (simp; done) | (simp; omega)))
          exact ((Below.refl w.heap.size w).alloc (Nat.le_refl _) _).alloc (by simp) _
    · as_aux_lemma =>
        go_wp2_with fail
        refine (keepU_first_newer w.heap.size 0 full _ (by simp [go_sem]) (by simp [go_sem])).mono ?_
        rintro e w1 ⟨rfl, r, hr, hh, hc, hk⟩
        have C := fun j (hj : j ≠ 7) => hk.cell w.heap.size j (by first | (simp; done) | (simp; omega)) (fun x => hj x.2)
        have Z := fun j => hk.frozen w.heap.size j (by first | (simp; done) | (simp; omega))
        have hs0 := hk.size
        as_aux_lemma =>
          go_wp2_with fail
          go_meet
          refine ⟨r, 0, ⟨(C 5 (by decide)).trans (by simp [go_sem]), (C 6 (by decide)).trans (by simp [go_sem]), hc, (C 8 (by decide)).trans (by simp [go_sem]), (C 9 (by decide)).trans (by simp [go_sem]), fun e => absurd e (by decide), fun e => absurd e (by decide), fun e => absurd e (by decide), by have := Fh.out; show Has _ r (U full); unfold U; rw [this.1, this.2]; exact hh, by have := Bf.out; omega, by have := Bf.out; omega, by simp at hr; omega⟩, fun e => absurd e (by decide), (C 14 (by decide)).trans (by simp [go_sem]), (C 15 (by decide)).trans (by simp [go_sem]), (C 17 (by decide)).trans (by simp [go_sem]), (C 18 (by decide)).trans (by simp [go_sem]), (Z 17).trans (by simp [go_sem]), (Z 18).trans (by simp [go_sem]), ?_, by simp at hr; omega⟩
          refine Below.trans ?_ (hk.below (fun k o hk2 x => by have := x.1; omega) (by first | (simp; done) | (simp; omega)))
          exact (Below.refl w.heap.size w).alloc (Nat.le_refl _) _
    · as_aux_lemma =>
        go_wp2_with fail
        refine (keepU_first_older w.heap.size 0 full _ (by simp [go_sem]) (by simp [go_sem])).mono ?_
        rintro e w1 ⟨rfl, r, hr, hh, hc, hk⟩
        have C := fun j (hj : j ≠ 8) => hk.cell w.heap.size j (by first | (simp; done) | (simp; omega)) (fun x => hj x.2)
        have Z := fun j => hk.frozen w.heap.size j (by first | (simp; done) | (simp; omega))
        have hs0 := hk.size
        as_aux_lemma =>
          go_wp2_with fail
          go_meet
          refine ⟨r, 0, ⟨(C 5 (by decide)).trans (by simp [go_sem]), (C 6 (by decide)).trans (by simp [go_sem]), (C 7 (by decide)).trans (by simp [go_sem]), hc, (C 9 (by decide)).trans (by simp [go_sem]), fun e => absurd e (by decide), fun e => absurd e (by decide), fun e => absurd e (by decide), by have := Fh.out; show Has _ r (U full); unfold U; rw [this.1, this.2]; exact hh, by have := Bf.out; omega, by have := Bf.out; omega, by simp at hr; omega⟩, fun e => absurd e (by decide), (C 14 (by decide)).trans (by simp [go_sem]), (C 15 (by decide)).trans (by simp [go_sem]), (C 17 (by decide)).trans (by simp [go_sem]), (C 18 (by decide)).trans (by simp [go_sem]), (Z 17).trans (by simp [go_sem]), (Z 18).trans (by simp [go_sem]), ?_, by simp at hr; omega⟩
          refine Below.trans ?_ (hk.below (fun k o hk2 x => by have := x.1; omega) (by first | (simp; done) | (simp; omega)))
          exact (Below.refl w.heap.size w).alloc (Nat.le_refl _) _
  case rest =>
    obtain ⟨r, base, hF, hbl, c14, c15, c17, c18, z17, z18, hbw, hgr⟩ := hcut
    have hbH : Below wc.heap.size wc (wc.alloc (.cells #[.int .i64 n, .int .u64 0, .int .u64 hs, .int .i64 lat, .int .i64 (op + 1)] 58)) := (Below.refl wc.heap.size wc).alloc (Nat.le_refl _) _
    have hBl : w.heap.size < wc.heap.size := hF.ltB
    have hrl : r < wc.heap.size := has_lt hF.has
    have HK := hkeep_any w.heap.size ol (.pointer (some ⟨wc.heap.size, 0, none⟩)) (wc.alloc (.cells #[.int .i64 n, .int .u64 0, .int .u64 hs, .int .i64 lat, .int .i64 (op + 1)] 58)) (cell_below hbH c17) (cell_below hbH c18) ((hbH.frozen (p := ⟨w.heap.size, 17, none⟩) hBl).trans z17) ((hbH.frozen (p := ⟨w.heap.size, 18, none⟩) hBl).trans z18)
    have HBk : Hid (∀ w1 r2, wc.heap.size + 1 ≤ r2 → Has w1 r2 (.pointer (some ⟨wc.heap.size, 0, none⟩)) → HeldAt w1 w.heap.size r2 ol → Kept (AtHeld w.heap.size) (wc.alloc (.cells #[.int .i64 n, .int .u64 0, .int .u64 hs, .int .i64 lat, .int .i64 (op + 1)] 58)) w1 → Bk w1 w.heap.size r r2 wc.heap.size wh ol base full 1 pu n hs lat (op + 1) ∧ Below w.heap.size w w1) := by
      intro w1 r2 hr2 hh hHeld hk
      have hS := Sh.out
      have hFA := hF.below hbH
      have hnB : ∀ k o, k ≠ w.heap.size → ¬ AtHeld w.heap.size k o := fun k o hk x => hk x.1
      have hHold : Holding (wc.alloc (.cells #[.int .i64 n, .int .u64 0, .int .u64 hs, .int .i64 lat, .int .i64 (op + 1)] 58)) wc.heap.size n hs lat (op + 1) := by
        refine ⟨?_, ?_, ?_, ?_, ?_, ?_, ?_, ?_⟩ <;> simp [go_sem, hS.1, hS.2]
      refine ⟨⟨hFA.kept hk (fun o _ _ x => by rcases x.2 with h | h <;> omega) (fun o => hnB r o hF.ne), hHeld, hh, hHold.kept hk (fun o => hnB _ o (by omega)), ?_, ?_, by omega, by omega, by omega, by omega⟩, ?_⟩
      · exact (hk.cell w.heap.size 14 (lt_of_cell (cell_below hbH c14)) (fun x => by rcases x.2 with h | h <;> omega)).trans (cell_below hbH c14)
      · exact (hk.cell w.heap.size 15 (lt_of_cell (cell_below hbH c15)) (fun x => by rcases x.2 with h | h <;> omega)).trans (cell_below hbH c15)
      · exact (hbw.trans (hbH.mono hbw.size)).trans (hk.below (fun k o hk2 x => by have := x.1; omega) (by simp; omega))
    have Hbl : Hid (wh = false → base = lt) := hbl
    clear hF hbl c14 c15 c17 c18 z17 z18 hbw hbH
    as_aux_lemma =>
      go_wp2_with fail
      refine HK.mono ?_
      rintro e w1 ⟨rfl, r2, hr2, hh, hHeld, hk⟩
      have HB1 : Hid (Bk w1 w.heap.size r r2 wc.heap.size wh ol base full 1 pu n hs lat (op + 1) ∧ Below w.heap.size w w1) := HBk.out w1 r2 (by simpa using hr2) hh hHeld hk
      have hgr2 : w.heap.size ≤ r2 := by simp at hr2; omega
      have hghb : w.heap.size ≤ wc.heap.size := by omega
      clear HK HBk hr2 hh hHeld hk
      generalize wc.heap.size = hb at *
      as_aux_lemma =>
        go_upto_if 128 with fail
        go_cut [34] (fun x34 wx => x34 = .int .i64 (mnF mis n) ∧ wx = w1)
        case first =>
          cases mis
          · as_aux_lemma =>
              go_wp2_with fail
              go_meet
              exact ⟨rfl, rfl⟩
          · as_aux_lemma =>
              go_wp2_with fail
              go_meet
              exact ⟨rfl, rfl⟩
        case rest =>
          obtain ⟨rfl, rfl⟩ := hcut
          as_aux_lemma =>
            go_upto_region 23 with fail
            go_cut [34] (fun _ wx => Full wx w.heap.size r wh ol base (wF (actF sp mis) full lt si T) ∧ Holding wx hb n (wS (actF sp mis) hs si T) lat (wO (actF sp mis) op) ∧ HeldAt wx w.heap.size r2 ol ∧ (if wO (actF sp mis) op = 0 then Emp wx r2 else Has wx r2 (.pointer (some ⟨hb, 0, none⟩))) ∧ Below w.heap.size w wx)
            case first =>
              have hB1 := HB1.out.1
              have hK1 := HB1.out.2
              by_cases hsp : sp = 0
              · subst hsp
                have ea : actF 0 mis = false := rfl
                have HZ := give_zero w.heap.size (.pointer (some ⟨hb, 0, none⟩)) ol true (mnF mis n) 0 ms 0 wc (by
                  have hbA : Below wc.heap.size wc (wc.alloc (.cells #[.int .i64 (mnF mis n), .int .u64 0, .int .u64 ms, .int .i64 0] 62)) := (Below.refl wc.heap.size wc).alloc (Nat.le_refl _) _
                  exact hfind_any _ r2 ol _ _ (hB1.below hbA).held (hB1.below hbA).has)
                as_aux_lemma =>
                  go_wp2_with fail
                  refine HZ.mono ?_
                  rintro e w2 ⟨rfl, hb2⟩
                  as_aux_lemma =>
                    go_wp2_with fail
                    go_meet
                    have hB2 := hB1.below hb2
                    rw [ea]
                    refine ⟨hB2.full, hB2.hold, hB2.held, ?_, hK1.trans (hb2.mono hK1.size)⟩
                    rw [if_neg (by show ¬ ((op : Int) + 1 = 0); omega)]
                    exact hB2.has
              · have hspb : ((sp : Int) == 0) = false := by simp; omega
                cases mis
                · have ea : actF sp false = true := by simp [actF, hsp]
                  have es : hs - ms = (si : Int) := by have := Ehs.out; omega
                  have eT : (sp : Int) * (pu : Int) = T := ET.out.symm
                  have b1 := BT.out
                  have b2 := Ems.out
                  have b3 := Ehs.out
                  have b4 := Blat.out
                  have b5 := Elt.out
                  have b6 := Bf.out
                  have eL : (lat + 9223372036854775808) * ((1 : Nat) : Int) = lt := by omega
                  have hbase : wh = false → base ≤ newF full lt (hs - ms) T := by
                    intro e
                    rw [Hbl.out e]
                    unfold newF
                    split
                    · split <;> omega
                    · omega
                  have eM : hiW ms = 0 ∧ loW ms = ms := by unfold hiW loW; omega
                  have HZ := give_main w.heap.size r r2 hb wh ol base full lt T sp 1 pu n hs ms lat (op + 1) 0 wc hspb hB1 (by omega) (by omega) (by omega) (by omega) (by omega) (by omega) (by omega) (by omega) eL (by omega) (by omega) eT (by omega) (by omega) (by omega) (by omega) hbase
                  rw [eM.1, eM.2] at HZ
                  have em : mnF false n = n := rfl
                  clear b1 b2 b3 b4 b5 b6 eL hbase eM eT
                  as_aux_lemma =>
                    go_wp2_with fail
                    refine HZ.mono ?_
                    rintro e w2 ⟨rfl, hF2, hH2, hHe2, hHas2, -, -, hk2⟩
                    clear HZ
                    as_aux_lemma =>
                      go_wp2_with fail
                      go_meet
                      rw [es] at hF2 hH2
                      have eo : ((op : Int) + 1) - 1 = op := by omega
                      rw [eo] at hH2
                      rw [ea]
                      refine ⟨hF2, hH2, hHe2, ?_, hK1.trans (hk2.below (fun k o hk3 x => by rcases x with h | h | h <;> omega) hK1.size)⟩
                      by_cases ho : (op : Int) = 0
                      · rw [if_pos (by omega)] at hHas2
                        rw [if_pos (by show (op : Int) = 0; exact ho)]
                        exact hHas2
                      · rw [if_neg (by omega)] at hHas2
                        rw [if_neg (by show ¬ (op : Int) = 0; exact ho)]
                        exact hHas2
                · have ea : actF sp true = false := by simp [actF]
                  have hne : (n == mnF true n) = false := by simp [mnF, wrap64]; omega
                  have HZ := give_other w.heap.size r2 hb ol sp n (mnF true n) 0 ms 0 wc hspb hne hB1.hold.c0 hB1.held hB1.has
                  as_aux_lemma =>
                    go_wp2_with fail
                    refine HZ.mono ?_
                    rintro e w2 ⟨rfl, hb2⟩
                    as_aux_lemma =>
                      go_wp2_with fail
                      go_meet
                      have hB2 := hB1.below hb2
                      rw [ea]
                      refine ⟨hB2.full, hB2.hold, hB2.held, ?_, hK1.trans (hb2.mono hK1.size)⟩
                      rw [if_neg (by show ¬ ((op : Int) + 1 = 0); omega)]
                      exact hB2.has
            case rest =>
              obtain ⟨hF, hH, hHe, hHas, hbw⟩ := hcut
              have b1 := BT.out
              have b2 := Ems.out
              have b3 := Ehs.out
              have b4 := Blat.out
              have b5 := Elt.out
              have b6 := Bf.out
              by_cases hsp : sp = 0
              · have ea : actF sp mis = false := by simp [actF, hsp]
                rw [ea] at hF hH hHas
                change Full wc w.heap.size r wh ol base full at hF
                change Holding wc hb n hs lat (op + 1) at hH
                rw [if_neg (by show ¬ ((op : Int) + 1 = 0); omega)] at hHas
                have eF : hiW full = 0 ∧ loW full = full := Fh.out
                have eS : hiW hs = 0 ∧ loW hs = hs := Sh.out
                have hspb : ((sp : Int) == 0) = true := by simp [hsp]
                have hspn : ((sp : Int) != 0) = false := by simp [hsp]
                have hpe := eql_same
                clear ea b1 b2 b3 b4 b5 b6 hsp HB1
                have HF := ffind_any w.heap.size r wh ol base (full) wc hF
                unfold U at HF
                rw [eF.1, eF.2] at HF
                obtain ⟨q0, q1, q2, q3, q4, -, -, -⟩ := hH
                rw [eS.1] at q1
                rw [eS.2] at q2
                have HFu : Hid (Full wc w.heap.size r wh ol base (full)) := hF
                have HHe : Hid (HeldAt wc w.heap.size r2 ol) := hHe
                have HHas : Hid (Has wc r2 (.pointer (some ⟨hb, 0, none⟩))) := hHas
                have HBw : Hid (Below w.heap.size w wc) := hbw
                clear hF hHe hHas hbw eF eS
                as_aux_lemma =>
                  go_wp2_with fail
                  refine HF.mono ?_
                  rintro e w3 ⟨rfl, hb3⟩
                  have hbA := below_alloc_self (.cells #[.int .u64 0, .int .u64 (full)] 46) hb3
                  have HL := flen_any w.heap.size r wh ol base (full) _ (HFu.out.below hbA)
                  have hl3 : hb < w3.heap.size := Nat.lt_of_lt_of_le (lt_of_cell q0) hb3.size
                  replace q0 := cell_below hb3 q0
                  replace q1 := cell_below hb3 q1
                  replace q2 := cell_below hb3 q2
                  replace q3 := cell_below hb3 q3
                  replace q4 := cell_below hb3 q4
                  clear HF hb3
                  as_aux_lemma =>
                    go_wp2_with fail
                    refine HL.mono ?_
                    rintro e w4 ⟨rfl, q, hw4⟩
                    subst w4
                    have k4 : Kept Nothing wc ((w3.alloc (.cells #[.int .u64 0, .int .u64 (full)] 46)).drewN q) := (Kept.of_below hbA).drewN q
                    have HHd := hfind_any w.heap.size r2 ol _ ((w3.alloc (.cells #[.int .u64 0, .int .u64 (full)] 46)).drewN q) (HHe.out.kept k4 (fun x => x) (fun x => x)) (HHas.out.kept k4 (fun _ x => x))
                    clear HL
                    as_aux_lemma =>
                      go_wp2_with fail
                      refine HHd.mono ?_
                      rintro e w5 ⟨rfl, hw5⟩
                      subst w5
                      clear HHd
                      as_aux_lemma =>
                        go_wp2_with fail
                        go_ret
                        exact ⟨by simp, below_drewN (HBw.out.trans (hbA.mono HBw.out.size)) q⟩
              · have hspb : ((sp : Int) == 0) = false := by simp; omega
                have hspn : ((sp : Int) != 0) = true := by simp; omega
                have hpe := eql_same
                cases mis
                · have ea : actF sp false = true := by simp [actF, hsp]
                  rw [ea] at hF hH hHas
                  change Full wc w.heap.size r wh ol base (newF full lt si T) at hF
                  change Holding wc hb n (if (si : Int) = 0 then hs - T else hs) lat op at hH
                  change (if (op : Int) = 0 then Emp wc r2 else Has wc r2 (.pointer (some ⟨hb, 0, none⟩))) at hHas
                  have bF : lt ≤ newF full lt si T ∧ newF full lt si T ≤ full := by
                    unfold newF
                    split
                    · split <;> omega
                    · omega
                  have bS : 0 ≤ (if (si : Int) = 0 then hs - T else hs) ∧ (if (si : Int) = 0 then hs - T else hs) ≤ hs := by
                    split <;> omega
                  have eN1 : (si : Int) < gap → T < gap - si → IntKind.u64.wrap (full - T) = newF full lt si T := by
                    intro g1 g2
                    rw [IntKind.wrap_u64]
                    unfold newF
                    rw [if_pos (by omega), if_pos (by omega)]
                    omega
                  have eN2 : (si : Int) < gap → ¬ T < gap - si → IntKind.u64.wrap (full - ((gap : Int) - si)) = newF full lt si T := by
                    intro g1 g2
                    rw [IntKind.wrap_u64]
                    unfold newF
                    rw [if_pos (by omega), if_neg (by omega)]
                    omega
                  have eN3 : ¬ (si : Int) < gap → full = newF full lt si T := by
                    intro g1
                    unfold newF
                    rw [if_neg (by omega)]
                  have eS1 : (si : Int) = 0 → IntKind.u64.wrap (hs - T) = (if (si : Int) = 0 then hs - T else hs) := by
                    intro g1
                    rw [if_pos g1, IntKind.wrap_u64]
                    omega
                  have eS2 : ¬ (si : Int) = 0 → hs = (if (si : Int) = 0 then hs - T else hs) := by
                    intro g1
                    rw [if_neg g1]
                  have eF : hiW (newF full lt si T) = 0 ∧ loW (newF full lt si T) = newF full lt si T := by unfold hiW loW; omega
                  have eS : hiW (if (si : Int) = 0 then hs - T else hs) = 0 ∧ loW (if (si : Int) = 0 then hs - T else hs) = (if (si : Int) = 0 then hs - T else hs) := by unfold hiW loW; omega
                  have HbT : Hid (0 ≤ T) := b1.1
                  clear ea b1 b2 b3 b4 b5 b6 hsp HB1 bF bS
                  generalize newF full lt si T = F at *
                  generalize (if (si : Int) = 0 then hs - T else hs) = S at *
                  have HeN1 : Hid ((si : Int) < gap → T < gap - si → IntKind.u64.wrap (full - T) = F) := eN1
                  have HeN2 : Hid ((si : Int) < gap → ¬ T < gap - si → IntKind.u64.wrap (full - ((gap : Int) - si)) = F) := eN2
                  have HeN3 : Hid (¬ (si : Int) < gap → full = F) := eN3
                  have HeS1 : Hid ((si : Int) = 0 → IntKind.u64.wrap (hs - T) = S) := eS1
                  have HeS2 : Hid (¬ (si : Int) = 0 → hs = S) := eS2
                  have HHold : Hid (Holding wc hb n S lat op) := hH
                  have HFF : Hid (Full wc w.heap.size r wh ol base F) := hF
                  have HHH : Hid (if (op : Int) = 0 then Emp wc r2 else Has wc r2 (.pointer (some ⟨hb, 0, none⟩))) := hHas
                  have HEF : Hid (hiW F = 0 ∧ loW F = F) := eF
                  have HES : Hid (hiW S = 0 ∧ loW S = S) := eS
                  clear eN1 eN2 eN3 eS1 eS2 hH hF hHas eF eS
                  as_aux_lemma =>
                    go_upto_if 155 with fail
                    go_cut [35, 38] (fun x35 _ wx => x35 = .int .u64 F ∧ wx = wc)
                    case first =>
                      by_cases hg : (si : Int) < gap
                      · by_cases hg2 : T < (gap : Int) - si
                        · have e1 := HeN1.out hg hg2
                          as_aux_lemma =>
                            go_wp2_with fail
                            go_meet
                            exact ⟨rfl, rfl⟩
                        · have e1 := HeN2.out hg hg2
                          have hg3 : decide (T < (gap : Int) - si) = false := by simpa using hg2
                          as_aux_lemma =>
                            go_wp2_with fail
                            go_meet
                            exact ⟨rfl, rfl⟩
                      · have e1 := HeN3.out hg
                        have hg3 : decide ((si : Int) < gap) = false := by simpa using hg
                        have e2 : Hid (full = F) := e1
                        clear e1
                        as_aux_lemma =>
                          go_wp2_with fail
                          go_meet
                          exact ⟨by rw [e2.out], rfl⟩
                    case rest =>
                      obtain ⟨rfl, rfl⟩ := hcut
                      as_aux_lemma =>
                        go_upto_if 169 with fail
                        go_cut [36] (fun x36 wx => x36 = .int .u64 S ∧ wx = wc)
                        case first =>
                          by_cases hz : (si : Int) = 0
                          · have hz3 : ((si : Int) == 0) = true := by simpa using hz
                            have e1 := HeS1.out hz
                            clear hz
                            as_aux_lemma =>
                              go_wp2_with fail
                              go_meet
                              exact ⟨rfl, rfl⟩
                          · have e1 : Hid (hs = S) := HeS2.out hz
                            have hz3 : ((si : Int) == 0) = false := by simpa using hz
                            as_aux_lemma =>
                              go_wp2_with fail
                              go_meet
                              exact ⟨by rw [e1.out], rfl⟩
                        case rest =>
                          obtain ⟨rfl, rfl⟩ := hcut
                          have eF := HEF.out
                          have eS := HES.out
                          have hF := HFF.out
                          have hH := HHold.out
                          have hHas := HHH.out
                          clear HeN1 HeN2 HeN3 HeS1 HeS2 HHold HFF HHH HEF HES
                          by_cases ho : (op : Int) = 0
                          · rw [if_pos ho] at hHas
                            have hop : decide ((0 : Int) < op) = false := by simp; omega
                            have HF := ffind_any w.heap.size r wh ol base (F) wc hF
                            unfold U at HF
                            rw [eF.1, eF.2] at HF
                            obtain ⟨q0, q1, q2, q3, q4, -, -, -⟩ := hH
                            rw [eS.1] at q1
                            rw [eS.2] at q2
                            have HFu : Hid (Full wc w.heap.size r wh ol base (F)) := hF
                            have HHe : Hid (HeldAt wc w.heap.size r2 ol) := hHe
                            have HHas : Hid (Emp wc r2) := hHas
                            have HBw : Hid (Below w.heap.size w wc) := hbw
                            clear hF hHe hHas hbw eF eS
                            as_aux_lemma =>
                              go_wp2_with fail
                              refine HF.mono ?_
                              rintro e w3 ⟨rfl, hb3⟩
                              have hbA := below_alloc_self (.cells #[.int .u64 0, .int .u64 (F)] 46) hb3
                              have HL := flen_any w.heap.size r wh ol base (F) _ (HFu.out.below hbA)
                              have hl3 : hb < w3.heap.size := Nat.lt_of_lt_of_le (lt_of_cell q0) hb3.size
                              replace q0 := cell_below hb3 q0
                              replace q1 := cell_below hb3 q1
                              replace q2 := cell_below hb3 q2
                              replace q3 := cell_below hb3 q3
                              replace q4 := cell_below hb3 q4
                              clear HF hb3
                              as_aux_lemma =>
                                go_wp2_with fail
                                refine HL.mono ?_
                                rintro e w4 ⟨rfl, q, hw4⟩
                                subst w4
                                have k4 : Kept Nothing wc ((w3.alloc (.cells #[.int .u64 0, .int .u64 (F)] 46)).drewN q) := (Kept.of_below hbA).drewN q
                                have HHd := hfind_emp w.heap.size r2 ol ((w3.alloc (.cells #[.int .u64 0, .int .u64 (F)] 46)).drewN q) (HHe.out.kept k4 (fun x => x) (fun x => x)) (HHas.out.kept k4 (fun _ x => x))
                                clear HL
                                as_aux_lemma =>
                                  go_wp2_with fail
                                  refine HHd.mono ?_
                                  rintro e w5 ⟨rfl, hw5⟩
                                  subst w5
                                  clear HHd
                                  have HLn := hlen_any w.heap.size r2 0 ol ((w3.alloc (.cells #[.int .u64 0, .int .u64 (F)] 46)).drewN q) (HHe.out.kept k4 (fun x => x) (fun x => x)) (emp_len (HHas.out.kept k4 (fun _ x => x))) (by omega)
                                  as_aux_lemma =>
                                    go_wp2_with fail
                                    refine HLn.mono ?_
                                    rintro e w6 ⟨rfl, q', hw6⟩
                                    subst w6
                                    clear HLn
                                    as_aux_lemma =>
                                      go_wp2_with fail
                                      go_ret
                                      exact ⟨by simp, below_drewN (HBw.out.trans (hbA.mono HBw.out.size)) (q + q')⟩
                          · rw [if_neg ho] at hHas
                            have hop : decide ((0 : Int) < op) = true := by simp; omega
                            have HF := ffind_any w.heap.size r wh ol base (F) wc hF
                            unfold U at HF
                            rw [eF.1, eF.2] at HF
                            obtain ⟨q0, q1, q2, q3, q4, -, -, -⟩ := hH
                            rw [eS.1] at q1
                            rw [eS.2] at q2
                            have HFu : Hid (Full wc w.heap.size r wh ol base (F)) := hF
                            have HHe : Hid (HeldAt wc w.heap.size r2 ol) := hHe
                            have HHas : Hid (Has wc r2 (.pointer (some ⟨hb, 0, none⟩))) := hHas
                            have HBw : Hid (Below w.heap.size w wc) := hbw
                            clear hF hHe hHas hbw eF eS
                            as_aux_lemma =>
                              go_wp2_with fail
                              refine HF.mono ?_
                              rintro e w3 ⟨rfl, hb3⟩
                              have hbA := below_alloc_self (.cells #[.int .u64 0, .int .u64 (F)] 46) hb3
                              have HL := flen_any w.heap.size r wh ol base (F) _ (HFu.out.below hbA)
                              have hl3 : hb < w3.heap.size := Nat.lt_of_lt_of_le (lt_of_cell q0) hb3.size
                              replace q0 := cell_below hb3 q0
                              replace q1 := cell_below hb3 q1
                              replace q2 := cell_below hb3 q2
                              replace q3 := cell_below hb3 q3
                              replace q4 := cell_below hb3 q4
                              clear HF hb3
                              as_aux_lemma =>
                                go_wp2_with fail
                                refine HL.mono ?_
                                rintro e w4 ⟨rfl, q, hw4⟩
                                subst w4
                                have k4 : Kept Nothing wc ((w3.alloc (.cells #[.int .u64 0, .int .u64 (F)] 46)).drewN q) := (Kept.of_below hbA).drewN q
                                have HHd := hfind_any w.heap.size r2 ol _ ((w3.alloc (.cells #[.int .u64 0, .int .u64 (F)] 46)).drewN q) (HHe.out.kept k4 (fun x => x) (fun x => x)) (HHas.out.kept k4 (fun _ x => x))
                                clear HL
                                as_aux_lemma =>
                                  go_wp2_with fail
                                  refine HHd.mono ?_
                                  rintro e w5 ⟨rfl, hw5⟩
                                  subst w5
                                  clear HHd
                                  as_aux_lemma =>
                                    go_wp2_with fail
                                    go_ret
                                    exact ⟨by simp, below_drewN (HBw.out.trans (hbA.mono HBw.out.size)) q⟩
                · have ea : actF sp true = false := by simp [actF]
                  rw [ea] at hF hH hHas
                  change Full wc w.heap.size r wh ol base full at hF
                  change Holding wc hb n hs lat (op + 1) at hH
                  rw [if_neg (by show ¬ ((op : Int) + 1 = 0); omega)] at hHas
                  have eF : hiW full = 0 ∧ loW full = full := Fh.out
                  have eS : hiW hs = 0 ∧ loW hs = hs := Sh.out
                  clear ea b1 b2 b3 b4 b5 b6 hsp HB1
                  have HF := ffind_any w.heap.size r wh ol base (full) wc hF
                  unfold U at HF
                  rw [eF.1, eF.2] at HF
                  obtain ⟨q0, q1, q2, q3, q4, -, -, -⟩ := hH
                  rw [eS.1] at q1
                  rw [eS.2] at q2
                  have HFu : Hid (Full wc w.heap.size r wh ol base (full)) := hF
                  have HHe : Hid (HeldAt wc w.heap.size r2 ol) := hHe
                  have HHas : Hid (Has wc r2 (.pointer (some ⟨hb, 0, none⟩))) := hHas
                  have HBw : Hid (Below w.heap.size w wc) := hbw
                  clear hF hHe hHas hbw eF eS
                  as_aux_lemma =>
                    go_wp2_with fail
                    refine HF.mono ?_
                    rintro e w3 ⟨rfl, hb3⟩
                    have hbA := below_alloc_self (.cells #[.int .u64 0, .int .u64 (full)] 46) hb3
                    have HL := flen_any w.heap.size r wh ol base (full) _ (HFu.out.below hbA)
                    have hl3 : hb < w3.heap.size := Nat.lt_of_lt_of_le (lt_of_cell q0) hb3.size
                    replace q0 := cell_below hb3 q0
                    replace q1 := cell_below hb3 q1
                    replace q2 := cell_below hb3 q2
                    replace q3 := cell_below hb3 q3
                    replace q4 := cell_below hb3 q4
                    clear HF hb3
                    as_aux_lemma =>
                      go_wp2_with fail
                      refine HL.mono ?_
                      rintro e w4 ⟨rfl, q, hw4⟩
                      subst w4
                      have k4 : Kept Nothing wc ((w3.alloc (.cells #[.int .u64 0, .int .u64 (full)] 46)).drewN q) := (Kept.of_below hbA).drewN q
                      have HHd := hfind_any w.heap.size r2 ol _ ((w3.alloc (.cells #[.int .u64 0, .int .u64 (full)] 46)).drewN q) (HHe.out.kept k4 (fun x => x) (fun x => x)) (HHas.out.kept k4 (fun _ x => x))
                      clear HL
                      as_aux_lemma =>
                        go_wp2_with fail
                        refine HHd.mono ?_
                        rintro e w5 ⟨rfl, hw5⟩
                        subst w5
                        clear HHd
                        as_aux_lemma =>
                          go_wp2_with fail
                          go_ret
                          exact ⟨by simp, below_drewN (HBw.out.trans (hbA.mono HBw.out.size)) q⟩
end Go.Proofs.Ybulkaqom

import Derived.Test.YbulkeeoiDoorBlk
namespace Go.Proofs.YbulkeeoiDoor
open Go.RowKit Go.Sort
set_option linter.unusedVariables false

set_option maxHeartbeats 2000000 in
set_option maxRecDepth 100000 in
theorem info20 (id : Nat) (ev : Int) (uri : ByteArray) (X N : Int) (w : World) (hid : id < 18446744073709551616) (hev : -128 ≤ ev ∧ ev ≤ 127) (hX : -1125899906842624 < X ∧ X < 1125899906842624) (hN : -1125899906842624 < N ∧ N < 1125899906842624)
    (htab : Hid (Lib.TabIs Ybad.prog w Ybad.powName .u64 Lib.pow10Tab)) :
    Calls Ybad.prog 20 #[.agg (bc (id : Int) ev uri (tS X) (tN X)), .agg (tc (tS N) (tN N))] w fun e w' => e = .returned (.agg (cc ({ data := #[99] } ++ num id) (cst ev) ev (cex ev (X - N)) uri)) ∧ Below w.heap.size w w' := by
  obtain ⟨h1, h2⟩ := hev
  have K23 : Hid (∀ wx, Calls Ybad.prog 23 #[.agg (tc (tS X) (tN X)), .agg (tc (tS N) (tN N))] wx fun e w' => e = .returned (.int .i64 (Fl.ceilSec (X - N))) ∧ Below wx.heap.size wx w') := fun wx =>
    left23 _ _ _ _ (X - N) wx (tN_lt _) (tN_lt _) (tS_bound hX) (tS_bound hN) (by have := tSN X; have := tSN N; omega) ⟨by omega, by omega⟩
  go_enter Ybad.func20, Ybad.ntmps20
  go_wp2_with fail
  have B0 : Hid (∀ W0, W0 = ((w.alloc (.cells (bc (id : Int) ev uri (tS X) (tN X)) 86)).alloc (.cells (tc (tS N) (tN N)) 33)).alloc (.cells (cc { data := #[] } 0 0 0 { data := #[] }) 102) → W0.heap.size = w.heap.size + 3 ∧ Below w.heap.size w W0 ∧ Blk W0 w.heap.size (bc (id : Int) ev uri (tS X) (tN X)) 86 ∧ Blk W0 (w.heap.size + 1) (tc (tS N) (tN N)) 33 ∧ Blk W0 (w.heap.size + 1 + 1) (cc { data := #[] } 0 0 0 { data := #[] }) 102) := by
    rintro W0 rfl
    refine ⟨by simp, ((((Below.refl _ w).alloc (Nat.le_refl _) _).alloc (by simp) _).alloc (by simp; omega) _), ((Blk.made w _ _).alloc _).alloc _, ?_, ?_⟩
    · have := Blk.made (w.alloc (.cells (bc (id : Int) ev uri (tS X) (tN X)) 86)) (tc (tS N) (tN N)) 33
      simp only [World.size_alloc] at this
      exact this.alloc _
    · have := Blk.made ((w.alloc (.cells (bc (id : Int) ev uri (tS X) (tN X)) 86)).alloc (.cells (tc (tS N) (tN N)) 33)) (cc { data := #[] } 0 0 0 { data := #[] }) 102
      simp only [World.size_alloc] at this
      exact this
  generalize hW : ((w.alloc (.cells (bc (id : Int) ev uri (tS X) (tN X)) 86)).alloc (.cells (tc (tS N) (tN N)) 33)).alloc (.cells (cc { data := #[] } 0 0 0 { data := #[] }) 102) = W0
  obtain ⟨hsz, hbw, H2, H3, H4⟩ := B0.out W0 hW.symm
  clear B0 hW
  have HB := hide hbw
  have HH2 := hide H2
  have HH3 := hide H3
  have HH4 := hide H4
  have HSZ := hide hsz
  have HT := hide (tab_below htab.out hbw)
  clear hbw H2 H3 H4 hsz
  have K19 : Hid (∀ wx, Below W0.heap.size W0 wx → Calls Ybad.prog 19 #[.int .u64 (id : Int), .int .i64 10] wx fun e w' => e = .returned (.string (num id)) ∧ Below W0.heap.size W0 w' ∧ Hid (Below wx.heap.size wx w')) := by
    intro wx hx
    refine (fmt19 id hid wx (hide (tab_below HT.out hx))).mono ?_
    rintro e w' ⟨rfl, hb'⟩
    exact ⟨rfl, hx.trans (hb'.mono hx.size), hb'⟩
  have c0 : ∀ wx, Below W0.heap.size W0 wx → wx.cell? ⟨w.heap.size, 13, none⟩ = some (.int .u64 (id : Int)) := fun wx hx => (HH2.out.kept hx).cell 13 _ rfl
  have c1 : ∀ wx, Below W0.heap.size W0 wx → wx.cell? ⟨w.heap.size, 14, none⟩ = some (.int .i64 ev) := fun wx hx => (HH2.out.kept hx).cell 14 _ rfl
  have c2 : ∀ wx, Below W0.heap.size W0 wx → wx.cell? ⟨w.heap.size, 1, none⟩ = some (.string uri) := fun wx hx => (HH2.out.kept hx).cell 1 _ rfl
  have hb0 := Below.refl W0.heap.size W0
  have hns := num_size hid
  have hif : 1 + (num id).size ≤ 9223372036854775807 := by omega
  go_cut [5] (fun v5 wc => ∃ b5, v5 = .pointer (some ⟨b5, 0, none⟩) ∧ W0.heap.size ≤ b5 ∧ Below W0.heap.size W0 wc ∧ Blk wc b5 (cc ({ data := #[99] } ++ num id) 1 ev 0 uri) 102)
  case first =>
    go_region_held (fun w' => Below W0.heap.size W0 w')
      (repeat' (first | assumption | apply Below.drew | apply below_alloc | apply below_set | exact Nat.le_refl _ | exact Below.size (by assumption)))
      (first | (go_at_call 19; refine (K19.out _ (by repeat' (first | assumption | apply Below.drew | apply below_alloc))).mono ?_; rintro e w5 ⟨rfl, hb5, hb6⟩; try (
        have D5 : Blk w5 W0.heap.size (cc { data := #[] } 0 0 0 { data := #[] }) 102 := Blk.kept (w := (W0.alloc (.cells (cc { data := #[] } 0 0 0 { data := #[] }) 102)).drew) (Blk.made W0 _ _) hb6.out
        have d0 := D5.cell 0 _ rfl
        have d1 := D5.cell 1 _ rfl
        have d2 := D5.cell 2 _ rfl
        have d3 := D5.cell 3 _ rfl
        have d4 := D5.cell 4 _ rfl
        have f0 := D5.frozen 0
        have f1 := D5.frozen 1
        have f2 := D5.frozen 2
        have f3 := D5.frozen 3
        have f4 := D5.frozen 4
        have HD5 := hide D5
        clear D5)))
    all_goals
      clear c0 c1 c2
      go_wp2
      go_meet
    all_goals first
      | exact ⟨W0.heap.size, rfl, Nat.le_refl _, by assumption, ((((HD5.out.set 0 _).set 1 _).set 2 _).set 3 _).set 4 _⟩
      | exact ⟨w5.heap.size, rfl, hb5.size, by assumption, Blk.made _ _ _⟩
  case rest =>
    obtain ⟨b5, rfl, hb5, hbc, hk5⟩ := hcut
    have HBC := hide hbc
    have HK5 := hide hk5
    have HB5 := hide hb5
    clear c0 c1 c2 K19 hk5 hbc hb0 hns hif hb5
    have KA := hide (HH2.out.kept HBC.out)
    have KB := hide (HH3.out.kept HBC.out)
    have KC := hide (HH4.out.kept HBC.out)
    have n1 : ¬ b5 = w.heap.size + 1 + 1 := by have := HB5.out; have := HSZ.out; omega
    have n2 : ¬ b5 = w.heap.size := by have := HB5.out; have := HSZ.out; omega
    have n3 : ¬ b5 = w.heap.size + 1 := by have := HB5.out; have := HSZ.out; omega
    have a14 := KA.out.cell 14 _ rfl
    by_cases he : ev = 3 ∨ ev = 4
    · have q1 : cst ev = 2 := by unfold cst; rw [if_pos he]
      have q2 : cex ev (X - N) = 0 := by unfold cex; rw [if_pos he]
      have HE := hide he
      clear he
      have K22 : Hid (∀ wx, Calls Ybad.prog 22 #[.int .i64 ev] wx fun e w' => e = .returned (.bool true) ∧ w' = wx) := by
        intro wx
        rcases HE.out with rfl | rfl
        · go_enter Ybad.func22, Ybad.ntmps22
          go_wp2
          go_ret
          exact ⟨rfl, rfl⟩
        · go_enter Ybad.func22, Ybad.ntmps22
          go_wp2
          go_ret
          exact ⟨rfl, rfl⟩
      have c0 := HK5.out.cell 0 _ rfl
      have c1 := HK5.out.cell 1 _ rfl
      have c2 := HK5.out.cell 2 _ rfl
      have c3 := HK5.out.cell 3 _ rfl
      have c4 := HK5.out.cell 4 _ rfl
      have f1 := HK5.out.frozen 1
      have d0 := KC.out.cell 0 _ rfl
      have d1 := KC.out.cell 1 _ rfl
      have d2 := KC.out.cell 2 _ rfl
      have d3 := KC.out.cell 3 _ rfl
      have d4 := KC.out.cell 4 _ rfl
      have g0 := KC.out.frozen 0
      have g1 := KC.out.frozen 1
      have g2 := KC.out.frozen 2
      have g3 := KC.out.frozen 3
      have g4 := KC.out.frozen 4
      have Q1 := hide q1
      have Q2 := hide q2
      clear q1 q2
      go_wp2_with (first | (go_at_call 22; refine (K22.out _).mono ?_; rintro e w' ⟨rfl, rfl⟩))
      refine bodyPost_ret (v := .agg (cc ({ data := #[99] } ++ num id) (cst ev) ev (cex ev (X - N)) uri)) ?_ rfl ⟨rfl, ?_⟩
      · rw [Q1.out, Q2.out]
        exact results20 _ _ _ _ _ _ _ _ rfl (((((((KC.out.other b5 1 _ (fun e => n1 e.symm)).set 0 _).set 1 _).set 2 _).set 3 _).set 4 _))
      · have n0 : w.heap.size ≤ b5 := by have := HB5.out; have := HSZ.out; omega
        have hx := HB.out.trans (HBC.out.mono HB.out.size)
        exact (((((hx.setCell (by exact n0) _).setCell (by show w.heap.size ≤ w.heap.size + 1 + 1; omega) _).setCell (by show w.heap.size ≤ w.heap.size + 1 + 1; omega) _).setCell (by show w.heap.size ≤ w.heap.size + 1 + 1; omega) _).setCell (by show w.heap.size ≤ w.heap.size + 1 + 1; omega) _).setCell (by show w.heap.size ≤ w.heap.size + 1 + 1; omega) _
    · have q1 : cst ev = 1 := by unfold cst; rw [if_neg he]
      have q2 : cex ev (X - N) = Fl.ceilSec (X - N) := by unfold cex; rw [if_neg he]
      have e3 : (ev == 3) = false := by simp; omega
      have e4 : (ev == 4) = false := by simp; omega
      have K22 : Hid (∀ wx, Calls Ybad.prog 22 #[.int .i64 ev] wx fun e w' => e = .returned (.bool false) ∧ w' = wx) := by
        intro wx
        go_enter Ybad.func22, Ybad.ntmps22
        go_wp2
        go_ret
        exact ⟨rfl, rfl⟩
      have Q1 := hide q1
      have Q2 := hide q2
      clear q1 q2 he e3 e4
      have a6 := KA.out.cell 6 _ rfl
      have a7 := KA.out.cell 7 _ rfl
      have a8 := KA.out.cell 8 _ rfl
      have b0 := KB.out.cell 0 _ rfl
      have b1 := KB.out.cell 1 _ rfl
      have b2 := KB.out.cell 2 _ rfl
      have K23' : Hid (Calls Ybad.prog 23 #[.agg (tc (tS X) (tN X)), .agg (tc (tS N) (tN N))] wc fun e w' => e = .returned (.int .i64 (Fl.ceilSec (X - N))) ∧ Hid (Below W0.heap.size W0 w' ∧ Blk w' b5 (cc ({ data := #[99] } ++ num id) 1 ev 0 uri) 102)) := by
        refine (K23.out wc).mono ?_
        rintro e w' ⟨rfl, hb'⟩
        exact ⟨rfl, HBC.out.trans (hb'.mono HBC.out.size), HK5.out.kept hb'⟩
      go_wp2_with (first | (go_at_call 22; refine (K22.out _).mono ?_; rintro e w' ⟨rfl, rfl⟩) | fail)
      go_at_call 23
      refine K23'.out.mono ?_
      rintro e w8 ⟨rfl, hx8⟩
      obtain ⟨hb8, hk8⟩ := hx8.out
      have HB8 := hide hb8
      have HK8 := hide hk8
      have KC8 := hide (HH4.out.kept hb8)
      clear hb8 hk8 hx8 a6 a7 a8 b0 b1 b2 a14 K23'
      have c0 := HK8.out.cell 0 _ rfl
      have c1 := HK8.out.cell 1 _ rfl
      have c2 := HK8.out.cell 2 _ rfl
      have c3 := HK8.out.cell 3 _ rfl
      have c4 := HK8.out.cell 4 _ rfl
      have f3 := HK8.out.frozen 3
      have d0 := KC8.out.cell 0 _ rfl
      have d1 := KC8.out.cell 1 _ rfl
      have d2 := KC8.out.cell 2 _ rfl
      have d3 := KC8.out.cell 3 _ rfl
      have d4 := KC8.out.cell 4 _ rfl
      have g0 := KC8.out.frozen 0
      have g1 := KC8.out.frozen 1
      have g2 := KC8.out.frozen 2
      have g3 := KC8.out.frozen 3
      have g4 := KC8.out.frozen 4
      go_wp2
      refine bodyPost_ret (v := .agg (cc ({ data := #[99] } ++ num id) (cst ev) ev (cex ev (X - N)) uri)) ?_ rfl ⟨rfl, ?_⟩
      · rw [Q1.out, Q2.out]
        exact results20 _ _ _ _ _ _ _ _ rfl (((((((KC8.out.other b5 3 _ (fun e => n1 e.symm)).set 0 _).set 1 _).set 2 _).set 3 _).set 4 _))
      · have n0 : w.heap.size ≤ b5 := by have := HB5.out; have := HSZ.out; omega
        have hx := HB.out.trans (HB8.out.mono HB.out.size)
        exact (((((hx.setCell (by exact n0) _).setCell (by show w.heap.size ≤ w.heap.size + 1 + 1; omega) _).setCell (by show w.heap.size ≤ w.heap.size + 1 + 1; omega) _).setCell (by show w.heap.size ≤ w.heap.size + 1 + 1; omega) _).setCell (by show w.heap.size ≤ w.heap.size + 1 + 1; omega) _).setCell (by show w.heap.size ≤ w.heap.size + 1 + 1; omega) _
end Go.Proofs.YbulkeeoiDoor

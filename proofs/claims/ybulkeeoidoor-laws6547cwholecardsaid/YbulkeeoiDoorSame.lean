import Derived.Test.YbulkeeoiDoorBlk
namespace Go.Proofs.YbulkeeoiDoor
open Go.RowKit Go.Sort
set_option linter.unusedVariables false

/-- Two boxes. -/
theorem two_boxes (w : World) (A B : Array Value) (ta tb : TypeId) : ∃ W0 : World, W0 = (w.alloc (.cells A ta)).alloc (.cells B tb) ∧ W0.heap.size = w.heap.size + 2 ∧ Below w.heap.size w W0 ∧ Blk W0 w.heap.size A ta ∧ Blk W0 (w.heap.size + 1) B tb := by
  refine ⟨_, rfl, by simp, ((Below.refl _ w).alloc (Nat.le_refl _) _).alloc (by simp) _, (Blk.made w _ _).alloc _, ?_⟩
  have := Blk.made (w.alloc (.cells A ta)) B tb
  simp only [World.size_alloc] at this
  exact this

set_option maxHeartbeats 2000000 in
set_option maxRecDepth 100000 in
theorem contact10 (id : Nat) (ev : Int) (uri : ByteArray) (ex N : Int) (w : World) (hid : id < 18446744073709551616) (hev : -128 ≤ ev ∧ ev ≤ 127) (hex : -9223372036854775808 ≤ ex ∧ ex ≤ 9223372036854775807) (hN : -1125899906842624 < N ∧ N < 1125899906842624) :
    Calls Ybad.prog 10 #[.agg (cc ({ data := #[99] } ++ num id) (cst ev) ev (cex ev (red ex - N)) uri), .agg (rb (id : Int) ev uri ex), .int .i64 N] w fun e w' => e = .returned (.bool true) ∧ Below w.heap.size w w' := by
  obtain ⟨h1, h2⟩ := hev
  obtain ⟨h5, h6⟩ := hN
  obtain ⟨W0, hW, hsz, hbw, H3, H4⟩ := two_boxes w (cc ({ data := #[99] } ++ num id) (cst ev) ev (cex ev (red ex - N)) uri) (rb (id : Int) ev uri ex) 102 75
  have HB := hide hbw
  have HH3 := hide H3
  have HH4 := hide H4
  have HSZ := hide hsz
  have HW := hide hW
  clear hbw H3 H4 hsz hW
  have K9 : Hid (∀ wx, Below W0.heap.size W0 wx → Calls Ybad.prog 9 #[.int .u64 (id : Int)] wx fun e w' => e = .returned (.string (num id)) ∧ Below W0.heap.size W0 w') := by
    intro wx hx
    refine (dec9 id hid wx).mono ?_
    rintro e w' ⟨rfl, hb'⟩
    exact ⟨rfl, hx.trans (hb'.mono hx.size)⟩
  have K4 : Hid (∀ wx, Calls Ybad.prog 4 #[.int .i64 ex] wx fun e w' => e = .returned (.int .i64 (red ex)) ∧ w' = wx) := fun wx => ns4 ex wx hex
  have c0 : ∀ wx, Below W0.heap.size W0 wx → wx.cell? ⟨w.heap.size, 0, none⟩ = some (.string ({ data := #[99] } ++ num id)) := fun wx hx => (HH3.out.kept hx).cell 0 _ rfl
  have c1 : ∀ wx, Below W0.heap.size W0 wx → wx.cell? ⟨w.heap.size, 1, none⟩ = some (.int .i64 (cst ev)) := fun wx hx => (HH3.out.kept hx).cell 1 _ rfl
  have c2 : ∀ wx, Below W0.heap.size W0 wx → wx.cell? ⟨w.heap.size, 2, none⟩ = some (.int .i64 ev) := fun wx hx => (HH3.out.kept hx).cell 2 _ rfl
  have c3 : ∀ wx, Below W0.heap.size W0 wx → wx.cell? ⟨w.heap.size, 3, none⟩ = some (.int .i64 (cex ev (red ex - N))) := fun wx hx => (HH3.out.kept hx).cell 3 _ rfl
  have c4 : ∀ wx, Below W0.heap.size W0 wx → wx.cell? ⟨w.heap.size, 4, none⟩ = some (.string uri) := fun wx hx => (HH3.out.kept hx).cell 4 _ rfl
  have d0 : ∀ wx, Below W0.heap.size W0 wx → wx.cell? ⟨w.heap.size + 1, 0, none⟩ = some (.int .u64 (id : Int)) := fun wx hx => (HH4.out.kept hx).cell 0 _ rfl
  have d1 : ∀ wx, Below W0.heap.size W0 wx → wx.cell? ⟨w.heap.size + 1, 1, none⟩ = some (.int .i8 ev) := fun wx hx => (HH4.out.kept hx).cell 1 _ rfl
  have d2 : ∀ wx, Below W0.heap.size W0 wx → wx.cell? ⟨w.heap.size + 1, 2, none⟩ = some (.string uri) := fun wx hx => (HH4.out.kept hx).cell 2 _ rfl
  have d3 : ∀ wx, Below W0.heap.size W0 wx → wx.cell? ⟨w.heap.size + 1, 3, none⟩ = some (.int .i64 ex) := fun wx hx => (HH4.out.kept hx).cell 3 _ rfl
  have hb0 := Below.refl W0.heap.size W0
  have hns := num_size hid
  have hif : 1 + (num id).size ≤ 9223372036854775807 := by omega
  have hw : IntKind.i64.wrap ev = ev := by rw [IntKind.wrap_i64]; omega
  go_enter Ybad.func10, Ybad.ntmps10
  go_wp2_with fail
  rw [← HW.out]
  go_region_held (fun w' => Below W0.heap.size W0 w')
    (repeat' (first | assumption | apply Below.drew | apply below_alloc))
    (first | (go_at_call 9; refine (K9.out _ (by repeat' (first | assumption | apply Below.drew | apply below_alloc))).mono ?_; rintro e w5 ⟨rfl, hb5⟩))
  have e0 := c1 w5 hb5
  have e1 := c3 w5 hb5
  have e2 := d1 w5 hb5
  have e3 := d3 w5 hb5
  have HB5 := hide (HB.out.trans (hb5.mono HB.out.size))
  clear c0 c1 c2 c3 c4 d0 d1 d2 d3 hb0 hb5 K9 HB HH3 HH4 HW
  by_cases t3 : ev = 3
  · subst t3
    have q1 : cst 3 = 2 := by decide
    have q2 : cex 3 (red ex - N) = 0 := by unfold cex; rw [if_pos (by decide)]
    go_wp2
    go_ret
    exact ⟨rfl, HB5.out⟩
  · by_cases t4 : ev = 4
    · subst t4
      have q1 : cst 4 = 2 := by decide
      have q2 : cex 4 (red ex - N) = 0 := by unfold cex; rw [if_pos (by decide)]
      go_wp2
      go_ret
      exact ⟨rfl, HB5.out⟩
    · have q1 : cst ev = 1 := by unfold cst; rw [if_neg (by omega)]
      have q2 : cex ev (red ex - N) = Fl.ceilSec (red ex - N) := by unfold cex; rw [if_neg (by omega)]
      have g3 : (ev == 3) = false := by simp; omega
      have g4 : (ev == 4) = false := by simp; omega
      obtain ⟨r1, r2⟩ := red_bound ex
      have r3 : -9223372036854775808 ≤ red ex - N := by omega
      have r4 : red ex - N ≤ 9223372036854775807 := by omega
      obtain ⟨m1, m2, m3, m4, m5⟩ := tdm (red ex - N) (by omega) (by omega)
      have M1 := hide m1
      clear m1 t3 t4
      by_cases t5 : 0 < (red ex - N).tmod 1000000000
      · have g5 : decide (0 < (red ex - N).tmod 1000000000) = true := by simpa using t5
        have g6 : Fl.ceilSec (red ex - N) = (red ex - N).tdiv 1000000000 + 1 := by unfold Fl.ceilSec; rw [if_pos t5]
        go_wp2_with (first | (go_at_call 4; refine (K4.out _).mono ?_; rintro e w' ⟨rfl, rfl⟩))
        go_ret
        exact ⟨by simp, HB5.out⟩
      · have g5 : decide (0 < (red ex - N).tmod 1000000000) = false := by simpa using t5
        have g6 : Fl.ceilSec (red ex - N) = (red ex - N).tdiv 1000000000 := by unfold Fl.ceilSec; rw [if_neg t5]
        go_wp2_with (first | (go_at_call 4; refine (K4.out _).mono ?_; rintro e w' ⟨rfl, rfl⟩))
        go_ret
        exact ⟨by simp, HB5.out⟩

set_option maxHeartbeats 2000000 in
set_option maxRecDepth 100000 in
theorem same11 (id : Nat) (ev : Int) (uri : ByteArray) (ex : Int) (w : World) (hev : -128 ≤ ev ∧ ev ≤ 127) (hex : -9223372036854775808 ≤ ex ∧ ex ≤ 9223372036854775807) :
    Calls Ybad.prog 11 #[.agg (bc (id : Int) ev uri (tS (red ex)) (tN (red ex))), .agg (rb (id : Int) ev uri ex)] w fun e w' => e = .returned (.bool true) ∧ Below w.heap.size w w' := by
  obtain ⟨h1, h2⟩ := hev
  obtain ⟨W0, hW, hsz, hbw, H3, H4⟩ := two_boxes w (bc (id : Int) ev uri (tS (red ex)) (tN (red ex))) (rb (id : Int) ev uri ex) 86 75
  have HB := hide hbw
  have HH3 := hide H3
  have HH4 := hide H4
  have HSZ := hide hsz
  have HW := hide hW
  clear hbw H3 H4 hsz hW
  have K4 : Hid (∀ wx, Calls Ybad.prog 4 #[.int .i64 ex] wx fun e w' => e = .returned (.int .i64 (red ex)) ∧ w' = wx) := fun wx => ns4 ex wx hex
  obtain ⟨r1, r2⟩ := red_bound ex
  have K5 : Hid (∀ wx, Below W0.heap.size W0 wx → Calls Ybad.prog 5 #[.agg #[.int .u64 0, .int .i64 0, .pointer none], .int .i64 (red ex)] wx fun e w' => e = .returned (.agg (tc (tS (red ex)) (tN (red ex)))) ∧ Below W0.heap.size W0 w') := by
    intro wx hx
    refine (add5 0 0 (red ex) (tS (red ex)) (tN (red ex)) wx (by omega) (tN_lt (red ex)) ⟨by omega, by omega⟩ ⟨by omega, by omega⟩ (by have := tSN (red ex); omega)).mono ?_
    rintro e w' ⟨rfl, hb'⟩
    exact ⟨rfl, hx.trans (hb'.mono hx.size)⟩
  have K17 : Hid (∀ wx, Below W0.heap.size W0 wx → Calls Ybad.prog 17 #[.agg (tc (tS (red ex)) (tN (red ex))), .agg (tc (tS (red ex)) (tN (red ex)))] wx fun e w' => e = .returned (.bool true) ∧ Below W0.heap.size W0 w') := by
    intro wx hx
    refine (equal17 _ _ wx (tN_lt (red ex))).mono ?_
    rintro e w' ⟨rfl, hb'⟩
    exact ⟨rfl, hx.trans (hb'.mono hx.size)⟩
  have c1 : ∀ wx, Below W0.heap.size W0 wx → wx.cell? ⟨w.heap.size, 1, none⟩ = some (.string uri) := fun wx hx => (HH3.out.kept hx).cell 1 _ rfl
  have c6 : ∀ wx, Below W0.heap.size W0 wx → wx.cell? ⟨w.heap.size, 6, none⟩ = some (.int .u64 (tN (red ex) : Int)) := fun wx hx => (HH3.out.kept hx).cell 6 _ rfl
  have c7 : ∀ wx, Below W0.heap.size W0 wx → wx.cell? ⟨w.heap.size, 7, none⟩ = some (.int .i64 (tS (red ex))) := fun wx hx => (HH3.out.kept hx).cell 7 _ rfl
  have c8 : ∀ wx, Below W0.heap.size W0 wx → wx.cell? ⟨w.heap.size, 8, none⟩ = some (.pointer none) := fun wx hx => (HH3.out.kept hx).cell 8 _ rfl
  have c13 : ∀ wx, Below W0.heap.size W0 wx → wx.cell? ⟨w.heap.size, 13, none⟩ = some (.int .u64 (id : Int)) := fun wx hx => (HH3.out.kept hx).cell 13 _ rfl
  have c14 : ∀ wx, Below W0.heap.size W0 wx → wx.cell? ⟨w.heap.size, 14, none⟩ = some (.int .i64 ev) := fun wx hx => (HH3.out.kept hx).cell 14 _ rfl
  have d0 : ∀ wx, Below W0.heap.size W0 wx → wx.cell? ⟨w.heap.size + 1, 0, none⟩ = some (.int .u64 (id : Int)) := fun wx hx => (HH4.out.kept hx).cell 0 _ rfl
  have d1 : ∀ wx, Below W0.heap.size W0 wx → wx.cell? ⟨w.heap.size + 1, 1, none⟩ = some (.int .i8 ev) := fun wx hx => (HH4.out.kept hx).cell 1 _ rfl
  have d2 : ∀ wx, Below W0.heap.size W0 wx → wx.cell? ⟨w.heap.size + 1, 2, none⟩ = some (.string uri) := fun wx hx => (HH4.out.kept hx).cell 2 _ rfl
  have d3 : ∀ wx, Below W0.heap.size W0 wx → wx.cell? ⟨w.heap.size + 1, 3, none⟩ = some (.int .i64 ex) := fun wx hx => (HH4.out.kept hx).cell 3 _ rfl
  have hb0 := Below.refl W0.heap.size W0
  have hw : IntKind.i64.wrap ev = ev := by rw [IntKind.wrap_i64]; omega
  go_enter Ybad.func11, Ybad.ntmps11
  go_wp2_with fail
  rw [← HW.out]
  go_region_held (fun w' => Below W0.heap.size W0 w')
    (repeat' (first | assumption | apply Below.drew | apply below_alloc))
    (first | (go_at_call 4; refine (K4.out _).mono ?_; rintro e w5 ⟨rfl, rfl⟩) | (go_at_call 5; refine (K5.out _ (by repeat' (first | assumption | apply Below.drew | apply below_alloc))).mono ?_; rintro e w5 ⟨rfl, hb5⟩) | (go_at_call 17; refine (K17.out _ (by repeat' (first | assumption | apply Below.drew | apply below_alloc))).mono ?_; rintro e w6 ⟨rfl, hb6⟩))
  clear c1 c6 c7 c8 c13 c14 d0 d1 d2 d3
  go_wp2
  go_ret
  exact ⟨rfl, HB.out.trans (hb6.mono HB.out.size)⟩
end Go.Proofs.YbulkeeoiDoor

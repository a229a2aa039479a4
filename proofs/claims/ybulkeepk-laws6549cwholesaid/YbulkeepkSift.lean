import Derived.Test.YbulkeepkHeap
namespace Go.Proofs.Ybulkeepk.Hp
open Go.RowKit
set_option linter.unusedVariables false

theorem sift_stop {A : Nat → Nat} {m f k : Nat} {e R : Nat → Nat} (h : sift A m (f + 1) e k = R) (h1 : ¬ 2 * k + 1 < m) : e = R := by
  rw [sift, if_neg h1] at h; exact h
theorem sift_rest {A : Nat → Nat} {m f k : Nat} {e R : Nat → Nat} (h : sift A m (f + 1) e k = R) (h1 : 2 * k + 1 < m) (h2 : bef A (e (best A m e k)) (e k) = false) : e = R := by
  rw [sift, if_pos h1, if_neg (by simp [h2])] at h; exact h
theorem sift_go {A : Nat → Nat} {m f k : Nat} {e R : Nat → Nat} (h : sift A m (f + 1) e k = R) (h1 : 2 * k + 1 < m) (h2 : bef A (e (best A m e k)) (e k) = true) : sift A m f (swp e k (best A m e k)) (best A m e k) = R := by
  rw [sift, if_pos h1, if_pos h2] at h; exact h

set_option maxHeartbeats 2000000 in
set_option maxRecDepth 100000 in
theorem sift13 (a0 : Option Addr) (n cap0 ab ao : Nat) (A : Nat → Nat) (ac : Option Addr) (b m k0 : Nat) (e0 R : Nat → Nat) (w : World) (hm : m ≤ 65536) (hk0 : k0 < m) (hab : ab < b) (hF : Hid (Fits m n e0)) (hR : Hid (sift A m m e0 k0 = R))
    (ix : Hid (∀ i, i < n → ∀ wx, Sem.run Yba.prog (Instr.indexAt 56 (.slice a0 n cap0) (.int .i64 (i : Int))) wx = .ok (.pointer (some ⟨ab, ao + i, none⟩)) wx))
    (hA : Hid (∀ i, i < n → w.cell? ⟨ab, ao + i, none⟩ = some (.float .f64 (A i))))
    (ixc : Hid (∀ i, i < m → ∀ wx, Sem.run Yba.prog (Instr.indexAt 22 (.slice ac m m) (.int .i64 (i : Int))) wx = .ok (.pointer (some ⟨b, i, none⟩)) wx))
    (hth : Hid (w.there b 0 m)) (he : Hid (∀ i, i < m → w.cell? ⟨b, i, none⟩ = some (.int .i64 (e0 i : Int)))) :
    Calls Yba.prog 13 #[.slice a0 n cap0, .slice ac m m, .int .i64 (k0 : Int)] w fun e w' => e = .returned (.tuple #[]) ∧ Below b w w' ∧ w'.there b 0 m ∧ ∀ i, i < m → w'.cell? ⟨b, i, none⟩ = some (.int .i64 (R i : Int)) := by
  go_enter Yba.func13, Yba.ntmps13
  go_wp2_with fail
  go_loopg [7] m (fun g s7 wr => ∃ (f k : Nat) (e : Nat → Nat), f ≤ g ∧ k < m ∧ m ≤ f + k ∧ s7 = .int .i64 k ∧ Hid (Fits m n e) ∧ Hid (sift A m f e k = R) ∧ Hid (Below b w wr) ∧ Hid (wr.there b 0 m) ∧ Hid (∀ i, i < m → wr.cell? ⟨b, i, none⟩ = some (.int .i64 (e i : Int))))
  case atStart => exact ⟨m, k0, e0, Nat.le_refl _, hk0, by omega, rfl, hF, hR, Below.refl _ _, hth, he⟩
  case round =>
    obtain ⟨f, k, e, hfg, hk, hg, rfl, HF, HS, HB, HT, HE⟩ := hrel
    have hA' : Hid (∀ i, i < n → wr.cell? ⟨ab, ao + i, none⟩ = some (.float .f64 (A i))) := fun i hi => by rw [HB.out.cell (by exact hab)]; exact hA.out i hi
    obtain ⟨f', rfl⟩ : ∃ f', f = f' + 1 := ⟨f - 1, by omega⟩
    by_cases h1 : 2 * k + 1 < m
    · obtain ⟨hb1, hb2⟩ := best_lt A m e k h1
      generalize hbe : best A m e k = bb at hb1 hb2
      have HBE := hide hbe
      clear hbe
      have c1 := HE.out _ h1
      have j1 : ∀ wx, Sem.run Yba.prog (Instr.indexAt 22 (.slice ac m m) (.int .i64 (2 * (k : Int) + 1))) wx = .ok (.pointer (some ⟨b, 2 * k + 1, none⟩)) wx := by
        intro wx; have := ixc.out _ h1 wx; rwa [show ((2 * k + 1 : Nat) : Int) = 2 * (k : Int) + 1 by omega] at this
      go_upto_if 40 with fail
      go_cut [40, 9, 8] (fun v40 v9 v8 wd => v9 = .int .i64 (2 * (k : Int) + 1) ∧ v8 = .int .i64 (2 * (k : Int) + 1) ∧ (∃ t : Bool, v40 = .bool t ∧ (bb : Int) = if t then 2 * (k : Int) + 2 else 2 * (k : Int) + 1) ∧ ∃ q, wd = wr.drewN q)
      case first =>
        have hw : IntKind.i64.wrap (2 * (k : Int) + 1 + 1) = 2 * (k : Int) + 1 + 1 := by rw [IntKind.wrap_i64]; omega
        by_cases h2 : 2 * k + 2 < m
        · have c2 := HE.out _ h2
          have j2 : ∀ wx, Sem.run Yba.prog (Instr.indexAt 22 (.slice ac m m) (.int .i64 (2 * (k : Int) + 1 + 1))) wx = .ok (.pointer (some ⟨b, 2 * k + 2, none⟩)) wx := by
            intro wx; have := ixc.out _ h2 wx; rwa [show ((2 * k + 2 : Nat) : Int) = 2 * (k : Int) + 1 + 1 by omega] at this
          have j3 : ∀ wx, Sem.run Yba.prog (Instr.indexAt 22 (.slice ac m m) (.int .i64 (2 * (k : Int) + 2))) wx = .ok (.pointer (some ⟨b, 2 * k + 2, none⟩)) wx := by
            intro wx; have := ixc.out _ h2 wx; rwa [show ((2 * k + 2 : Nat) : Int) = 2 * (k : Int) + 2 by omega] at this
          have hd : decide (2 * (k : Int) + 1 + 1 < (m : Int)) = true := by simp; omega
          have hd' : decide (2 * (k : Int) + 2 < (m : Int)) = true := by simp; omega
          have K1 : Hid (∀ q, Calls Yba.prog 18 #[.slice a0 n cap0, .int .i64 (e (2 * k + 2) : Int), .int .i64 (e (2 * k + 1) : Int)] (wr.drewN q) fun e' w' => e' = .returned (.bool (bef A (e (2 * k + 2)) (e (2 * k + 1)))) ∧ ∃ q', w' = (wr.drewN q).drewN q') := fun q => bef18 a0 n cap0 ab ao A _ _ _ (HF.out.2 _ h2) (HF.out.2 _ h1) ix hA'
          cases hbf : bef A (e (2 * k + 2)) (e (2 * k + 1)) with
          | true =>
            rw [hbf] at K1
            have HBF := hide hbf
            clear hbf
            go_wp2_with fail
            go_quiet (first | (go_at_call 18; exact Calls.quiet_of (K1.out _)))
            go_wp2
            go_meet
            case rel => exact ⟨rfl, rfl, ⟨true, rfl, by have h := HBE.out; rw [best, if_pos ⟨h2, HBF.out⟩] at h; simp; omega⟩, _, rfl⟩
          | false =>
            rw [hbf] at K1
            have HBF := hide hbf
            clear hbf
            go_wp2_with fail
            go_quiet (first | (go_at_call 18; exact Calls.quiet_of (K1.out _)))
            go_wp2
            go_meet
            case rel => exact ⟨rfl, rfl, ⟨false, rfl, by have h := HBE.out; rw [best, if_neg (by rw [HBF.out]; simp)] at h; simp; omega⟩, _, rfl⟩
        · have hd : decide (2 * (k : Int) + 1 + 1 < (m : Int)) = false := by simp; omega
          have hd' : decide (2 * (k : Int) + 2 < (m : Int)) = false := by simp; omega
          go_wp2_with fail
          go_quiet (fail)
          go_wp2
          go_meet
          case rel => exact ⟨rfl, rfl, ⟨false, rfl, by have h := HBE.out; rw [best, if_neg (by omega)] at h; simp; omega⟩, _, rfl⟩
      case rest =>
       obtain ⟨rfl, rfl, ⟨t, rfl, hbt⟩, q, rfl⟩ := hcut
       have HBT := hide hbt
       clear hbt
       go_upto_if 40 with fail
       go_cut [9] (fun v9 wd => v9 = .int .i64 (bb : Int) ∧ wd = wr.drewN q)
       case first =>
        have h := HBT.out
        cases t with
        | true =>
          rw [if_pos rfl] at h
          go_wp2
          go_meet
          case rel => exact ⟨by go_num, rfl⟩
        | false =>
          rw [if_neg (by simp)] at h
          go_wp2
          go_meet
          case rel => exact ⟨by go_num, rfl⟩
       case rest =>
        obtain ⟨rfl, hq⟩ := hcut
        have HB2 : Hid (Below b w wc) := by rw [hq]; exact HB.out.trans ⟨rfl, rfl, rfl, Nat.le_refl _, fun _ _ => rfl⟩
        have HT2 : Hid (wc.there b 0 m) := by rw [hq]; exact HT.out
        have HE2 : Hid (∀ i, i < m → wc.cell? ⟨b, i, none⟩ = some (.int .i64 (e i : Int))) := by rw [hq]; exact HE.out
        have hA2 : Hid (∀ i, i < n → wc.cell? ⟨ab, ao + i, none⟩ = some (.float .f64 (A i))) := by rw [hq]; exact hA'.out
        clear hq HB HT HE hA' c1
        have cb := HE2.out _ hb1
        have ck := HE2.out _ hk
        have jb := ixc.out _ hb1
        have jk := ixc.out _ hk
        have fb := there_frozen HT2.out bb hb1
        have fk := there_frozen HT2.out k hk
        have hne : ¬ bb = k := by omega
        have hne' : ¬ k = bb := by omega
        have K1 : Hid (∀ q, Calls Yba.prog 18 #[.slice a0 n cap0, .int .i64 (e bb : Int), .int .i64 (e k : Int)] (wc.drewN q) fun e' w' => e' = .returned (.bool (bef A (e bb) (e k))) ∧ ∃ q', w' = (wc.drewN q).drewN q') := fun q => bef18 a0 n cap0 ab ao A _ _ _ (HF.out.2 _ hb1) (HF.out.2 _ hk) ix hA2
        cases hbf : bef A (e bb) (e k) with
        | true =>
          rw [hbf] at K1
          have HBF := hide hbf
          clear hbf
          go_wp2_with fail
          go_quiet (first | (go_at_call 18; exact Calls.quiet_of (K1.out _)))
          go_wp2
          go_roundg f'
          case measure => omega
          case rel =>
            refine ⟨f', bb, swp e k bb, Nat.le_refl _, hb1, by omega, rfl, swp_fits HF.out hk hb1, ?_, ?_, ?_, ?_⟩
            · have := sift_go HS.out h1 (by rw [HBE.out]; exact HBF.out)
              rwa [HBE.out] at this
            · show Below b w _
              refine Below.setCell (Below.setCell ?_ (by exact Nat.le_refl _) _) (by exact Nat.le_refl _) _
              exact HB2.out.trans ⟨rfl, rfl, rfl, Nat.le_refl _, fun _ _ => rfl⟩
            · exact there_set (there_set HT2.out _ _ _) _ _ _
            · intro i hi
              simp only [swp]
              by_cases i1 : i = k
              · subst i1
                rw [if_pos rfl]
                refine cell_set ?_ (by omega)
                exact World.cell?_setCell_same _ _ _ ck
              · rw [if_neg i1]
                by_cases i2 : i = bb
                · subst i2
                  rw [if_pos rfl]
                  exact World.cell?_setCell_same _ _ _ (cell_set cb (by omega))
                · rw [if_neg i2]
                  exact cell_set (cell_set (HE2.out i hi) (by omega)) (by omega)
        | false =>
          rw [hbf] at K1
          have HBF := hide hbf
          clear hbf
          go_wp2_with fail
          go_quiet (first | (go_at_call 18; exact Calls.quiet_of (K1.out _)))
          go_wp2
          refine bodyPost_ret (results_none rfl _ _ _) rfl ?_
          have := sift_rest HS.out h1 (by rw [HBE.out]; exact HBF.out)
          subst this
          exact ⟨rfl, HB2.out.trans ⟨rfl, rfl, rfl, Nat.le_refl _, fun _ _ => rfl⟩, HT2.out, HE2.out⟩
    · go_wp2
      refine bodyPost_ret (results_none rfl _ _ _) rfl ?_
      have := sift_stop HS.out h1
      subst this
      exact ⟨rfl, HB.out, HT.out, HE.out⟩
end Go.Proofs.Ybulkeepk.Hp

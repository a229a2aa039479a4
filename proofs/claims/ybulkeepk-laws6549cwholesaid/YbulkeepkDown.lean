import Derived.Test.YbulkeepkSift
namespace Go.Proofs.Ybulkeepk.Hp
open Go.RowKit
set_option linter.unusedVariables false

/-- What stays of a choiceHeap's memory: its three slices, the activities, and that choices and places can be written. -/
structure Hm (V ba cb pb n m : Nat) (ac : Option Addr) (A : Nat → Nat) (w : World) : Prop where
  c0 : w.cell? ⟨V, 0, none⟩ = some (.slice (some ⟨ba, 0, none⟩) n n)
  c1 : w.cell? ⟨V, 1, none⟩ = some (.slice (some ⟨pb, 0, none⟩) n n)
  c2 : w.cell? ⟨V, 2, none⟩ = some (.slice ac m m)
  act : ∀ i, i < n → w.cell? ⟨ba, i, none⟩ = some (.float .f64 (A i))
  tc : w.there cb 0 m
  tp : w.there pb 0 n
theorem Hm.drewN {V ba cb pb n m : Nat} {ac : Option Addr} {A : Nat → Nat} {w : World} (h : Hm V ba cb pb n m ac A w) (q : Nat) : Hm V ba cb pb n m ac A (w.drewN q) := ⟨h.c0, h.c1, h.c2, h.act, h.tc, h.tp⟩
theorem Hm.put {V ba cb pb n m : Nat} {ac : Option Addr} {A : Nat → Nat} {w : World} (h : Hm V ba cb pb n m ac A w) (h1 : ba < cb) (h2 : cb < pb) (h3 : pb < V) (k x : Nat) (u v : Value) : Hm V ba cb pb n m ac A ((w.setCell ⟨cb, k, none⟩ u).setCell ⟨pb, x, none⟩ v) :=
  ⟨cell_set (cell_set h.c0 (by omega)) (by omega), cell_set (cell_set h.c1 (by omega)) (by omega), cell_set (cell_set h.c2 (by omega)) (by omega), fun i hi => cell_set (cell_set (h.act i hi) (by omega)) (by omega), there_set (there_set h.tc _ _ _) _ _ _, there_set (there_set h.tp _ _ _) _ _ _⟩

/-- What a world keeps of another but two blocks. -/
def Kept (cb pb : Nat) (w w' : World) : Prop := Below cb w w' ∧ w'.heap.size = w.heap.size ∧ ∀ a : Addr, a.block ≠ cb → a.block ≠ pb → w'.cell? a = w.cell? a
theorem Kept.refl (cb pb : Nat) (w : World) : Kept cb pb w w := ⟨Below.refl _ _, rfl, fun _ _ _ => rfl⟩
theorem Kept.drewN {cb pb : Nat} {w w' : World} (h : Kept cb pb w w') (q : Nat) : Kept cb pb w (w'.drewN q) := ⟨h.1.trans ⟨rfl, rfl, rfl, Nat.le_refl _, fun _ _ => rfl⟩, h.2.1, h.2.2⟩
theorem Kept.put {cb pb : Nat} {w w' : World} (h : Kept cb pb w w') (h2 : cb < pb) (k x : Nat) (u v : Value) : Kept cb pb w ((w'.setCell ⟨cb, k, none⟩ u).setCell ⟨pb, x, none⟩ v) :=
  ⟨(h.1.setCell (Nat.le_refl _) _).setCell (by show cb ≤ pb; omega) _, by rw [← h.2.1]; simp [World.setCell], fun a h1 h3 => by
    rw [World.cell?_setCell_other _ _ _ _ (fun e => h3 (by rw [← e])), World.cell?_setCell_other _ _ _ _ (fun e => h1 (by rw [← e]))]
    exact h.2.2 a h1 h3⟩

set_option maxHeartbeats 1000000 in
set_option maxRecDepth 100000 in
theorem put20' (V cb pb m n k x : Nat) (ac : Option Addr) (w : World) (hk : k < m) (hx : x < n) (hm : m ≤ 65536) (hVc : ¬ V = cb) (hcp : ¬ cb = pb)
    (h1 : w.cell? ⟨V, 1, none⟩ = some (.slice (some ⟨pb, 0, none⟩) n n)) (h2 : w.cell? ⟨V, 2, none⟩ = some (.slice ac m m))
    (jk : ∀ wx, Sem.run Yba.prog (Instr.indexAt 22 (.slice ac m m) (.int .i64 (k : Int))) wx = .ok (.pointer (some ⟨cb, k, none⟩)) wx)
    (hc : Hid (w.there cb 0 m)) (hp : Hid (w.there pb 0 n)) :
    Calls Yba.prog 20 #[.pointer (some ⟨V, 0, none⟩), .int .i64 (k : Int), .int .i64 (x : Int)] w fun e w' => e = .returned (.tuple #[]) ∧ w' = (w.setCell ⟨cb, k, none⟩ (.int .i64 (x : Int))).setCell ⟨pb, x, none⟩ (.int .i64 ((k + 1 : Nat) : Int)) := by
  obtain ⟨v1, c1⟩ := there_cell hc.out k hk
  obtain ⟨v2, c2⟩ := there_cell hp.out x hx
  have f1 := there_frozen hc.out k hk
  have f2 := there_frozen hp.out x hx
  go_enter Yba.func20, Yba.ntmps20
  go_wp2
  go_end0
  exact ⟨rfl, by congr 2⟩

/-- The state in the loop of down: e is the permutation as it will be when c is put at k. -/
structure St (cb pb m n k : Nat) (e p : Nat → Nat) (w : World) : Prop where
  fits : Fits m n e
  ch : ∀ j, j < m → j ≠ k → w.cell? ⟨cb, j, none⟩ = some (.int .i64 (e j : Int))
  pl : ∀ v, v < n → w.cell? ⟨pb, v, none⟩ = some (.int .i64 (p v : Int))
  at_ : ∀ j, j < m → j ≠ k → p (e j) = j + 1
  out : ∀ v, (∀ j, j < m → e j ≠ v) → p v = 0

theorem St.drewN {cb pb m n k : Nat} {e p : Nat → Nat} {w : World} (h : St cb pb m n k e p w) (q : Nat) : St cb pb m n k e p (w.drewN q) := ⟨h.fits, h.ch, h.pl, h.at_, h.out⟩
theorem St.put {cb pb m n k : Nat} {e p : Nat → Nat} {w : World} (h : St cb pb m n k e p w) (hcp : cb < pb) (tc : w.there cb 0 m) (tp : w.there pb 0 n) (hk : k < m) {b : Nat} (hb : b < m) (hbk : b ≠ k) :
    St cb pb m n b (swp e k b) (fun v => if v = e b then k + 1 else p v) ((w.setCell ⟨cb, k, none⟩ (.int .i64 (e b : Int))).setCell ⟨pb, e b, none⟩ (.int .i64 ((k + 1 : Nat) : Int))) := by
  obtain ⟨v1, c1⟩ := there_cell tc k hk
  obtain ⟨v2, c2⟩ := there_cell tp (e b) (h.fits.2 b hb)
  refine ⟨swp_fits h.fits hk hb, fun j hj hjb => ?_, fun v hv => ?_, fun j hj hjb => ?_, fun v hv => ?_⟩
  · refine cell_set ?_ (by omega)
    simp only [swp]
    by_cases e1 : j = k
    · subst e1
      rw [if_pos rfl]
      exact World.cell?_setCell_same _ _ _ c1
    · rw [if_neg e1, if_neg hjb]
      exact cell_set (h.ch j hj e1) (by omega)
  · by_cases e1 : v = e b
    · subst e1
      simp only [if_pos]
      exact World.cell?_setCell_same _ _ _ (cell_set c2 (by omega))
    · simp only [if_neg e1]
      exact cell_set (cell_set (h.pl v hv) (by omega)) (by omega)
  · show (if swp e k b j = e b then k + 1 else p (swp e k b j)) = j + 1
    by_cases e1 : j = k
    · subst e1
      rw [if_pos (by simp [swp])]
    · have hsw : swp e k b j = e j := by simp [swp, e1, hjb]
      rw [hsw, if_neg (fun e2 => hjb (h.fits.1 _ _ hj hb e2))]
      exact h.at_ j hj e1
  · have hnb : v ≠ e b := fun e1 => by
      have := hv k hk
      simp [swp] at this
      exact this e1.symm
    rw [if_neg hnb]
    refine h.out v fun j hj => ?_
    by_cases e1 : j = k
    · subst e1
      have := hv b hb
      simp [swp, hbk] at this
      exact this
    · by_cases e2 : j = b
      · subst e2; exact fun e3 => hnb e3.symm
      · have := hv j hj
        simp [swp, e1, e2] at this
        exact this
theorem St.last {cb pb m n k : Nat} {e p : Nat → Nat} {w : World} (h : St cb pb m n k e p w) (hcp : cb < pb) (tc : w.there cb 0 m) (tp : w.there pb 0 n) (hk : k < m) :
    ∃ p', (∀ j, j < m → ((w.setCell ⟨cb, k, none⟩ (.int .i64 (e k : Int))).setCell ⟨pb, e k, none⟩ (.int .i64 ((k + 1 : Nat) : Int))).cell? ⟨cb, j, none⟩ = some (.int .i64 (e j : Int))) ∧ (∀ v, v < n → ((w.setCell ⟨cb, k, none⟩ (.int .i64 (e k : Int))).setCell ⟨pb, e k, none⟩ (.int .i64 ((k + 1 : Nat) : Int))).cell? ⟨pb, v, none⟩ = some (.int .i64 (p' v : Int))) ∧ PlaceOf m e p' := by
  obtain ⟨v1, c1⟩ := there_cell tc k hk
  obtain ⟨v2, c2⟩ := there_cell tp (e k) (h.fits.2 k hk)
  refine ⟨fun v => if v = e k then k + 1 else p v, fun j hj => ?_, fun v hv => ?_, fun j hj => ?_, fun v hv => ?_⟩
  · refine cell_set ?_ (by omega)
    by_cases e1 : j = k
    · subst e1
      exact World.cell?_setCell_same _ _ _ c1
    · exact cell_set (h.ch j hj e1) (by omega)
  · by_cases e1 : v = e k
    · subst e1
      simp only [if_pos]
      exact World.cell?_setCell_same _ _ _ (cell_set c2 (by omega))
    · simp only [if_neg e1]
      exact cell_set (cell_set (h.pl v hv) (by omega)) (by omega)
  · by_cases e1 : j = k
    · subst e1; simp
    · have hne : ¬ e j = e k := fun e2 => e1 (h.fits.1 _ _ hj hk e2)
      simp only [if_neg hne]
      exact h.at_ j hj e1
  · have hne : ¬ v = e k := fun e1 => hv k hk e1.symm
    simp only [if_neg hne]
    exact h.out v hv

set_option maxHeartbeats 2000000 in
set_option maxRecDepth 100000 in
theorem down14 (V ba cb pb n m k0 c : Nat) (ac : Option Addr) (A : Nat → Nat) (e0 p0 R : Nat → Nat) (w : World) (hm : m ≤ 65536) (hk0 : k0 < m) (o1 : ba < cb) (o2 : cb < pb) (o3 : pb < V)
    (hR : Hid (sift A m m e0 k0 = R)) (hH : Hid (Hm V ba cb pb n m ac A w))
    (ixc : Hid (∀ i, i < m → ∀ wx, Sem.run Yba.prog (Instr.indexAt 22 (.slice ac m m) (.int .i64 (i : Int))) wx = .ok (.pointer (some ⟨cb, i, none⟩)) wx))
    (hS : Hid (St cb pb m n k0 e0 p0 w)) (hc : Hid (e0 k0 = c)) (hk : w.cell? ⟨cb, k0, none⟩ = some (.int .i64 (c : Int))) :
    Calls Yba.prog 14 #[.pointer (some ⟨V, 0, none⟩), .int .i64 (k0 : Int)] w fun e w' => e = .returned (.tuple #[]) ∧ Kept cb pb w w' ∧ (∃ p', (∀ j, j < m → w'.cell? ⟨cb, j, none⟩ = some (.int .i64 (R j : Int))) ∧ (∀ v, v < n → w'.cell? ⟨pb, v, none⟩ = some (.int .i64 (p' v : Int))) ∧ PlaceOf m R p') := by
  have d2 := hH.out.c2
  have j0 := ixc.out _ hk0
  go_enter Yba.func14, Yba.ntmps14
  go_wp2_with fail
  go_loopg [1] m (fun g s1 wr => ∃ (f k : Nat) (e p : Nat → Nat), f ≤ g ∧ k < m ∧ m ≤ f + k ∧ s1 = .int .i64 k ∧ Hid (e k = c) ∧ Hid (sift A m f e k = R) ∧ Hid (Hm V ba cb pb n m ac A wr) ∧ Hid (St cb pb m n k e p wr) ∧ Hid (Kept cb pb w wr))
  case atStart => exact ⟨m, k0, e0, p0, Nat.le_refl _, hk0, by omega, rfl, hc, hR, hH, hS, Kept.refl _ _ _⟩
  case round =>
    obtain ⟨f, k, e, p, hfg, hkm, hg, rfl, HEK, HS, HH, HT, HK⟩ := hrel
    obtain ⟨f', rfl⟩ : ∃ f', f = f' + 1 := ⟨f - 1, by omega⟩
    clear d2 hk j0
    have hcn : c < n := by rw [← HEK.out]; exact HT.out.fits.2 _ hkm
    have d2 := HH.out.c2
    by_cases h1 : 2 * k + 1 < m
    · obtain ⟨hb1, hb2⟩ := best_lt A m e k h1
      generalize hbe : best A m e k = bb at hb1 hb2
      have HBE := hide hbe
      clear hbe
      have c1 := HT.out.ch _ h1 (by omega)
      have j1 : ∀ wx, Sem.run Yba.prog (Instr.indexAt 22 (.slice ac m m) (.int .i64 (2 * (k : Int) + 1))) wx = .ok (.pointer (some ⟨cb, 2 * k + 1, none⟩)) wx := by
        intro wx; have := ixc.out _ h1 wx; rwa [show ((2 * k + 1 : Nat) : Int) = 2 * (k : Int) + 1 by omega] at this
      go_upto_if 49 with fail
      go_cut [49, 5] (fun v49 v5 wd => v5 = .int .i64 (2 * (k : Int) + 1) ∧ (∃ t : Bool, v49 = .bool t ∧ (bb : Int) = if t then 2 * (k : Int) + 2 else 2 * (k : Int) + 1) ∧ ∃ q, wd = wr.drewN q)
      case first =>
        have hw : IntKind.i64.wrap (2 * (k : Int) + 1 + 1) = 2 * (k : Int) + 1 + 1 := by rw [IntKind.wrap_i64]; omega
        by_cases h2 : 2 * k + 2 < m
        · have c2 := HT.out.ch _ h2 (by omega)
          have j2 : ∀ wx, Sem.run Yba.prog (Instr.indexAt 22 (.slice ac m m) (.int .i64 (2 * (k : Int) + 1 + 1))) wx = .ok (.pointer (some ⟨cb, 2 * k + 2, none⟩)) wx := by
            intro wx; have := ixc.out _ h2 wx; rwa [show ((2 * k + 2 : Nat) : Int) = 2 * (k : Int) + 1 + 1 by omega] at this
          have hd : decide (2 * (k : Int) + 1 + 1 < (m : Int)) = true := by simp; omega
          have K1 : Hid (∀ q, Calls Yba.prog 19 #[.pointer (some ⟨V, 0, none⟩), .int .i64 (e (2 * k + 2) : Int), .int .i64 (e (2 * k + 1) : Int)] (wr.drewN q) fun e' w' => e' = .returned (.bool (bef A (e (2 * k + 2)) (e (2 * k + 1)))) ∧ ∃ q', w' = (wr.drewN q).drewN q') := fun q => bef19 V ba n A _ _ _ (HT.out.fits.2 _ h2) (HT.out.fits.2 _ h1) HH.out.c0 HH.out.act
          cases hbf : bef A (e (2 * k + 2)) (e (2 * k + 1)) with
          | true =>
            rw [hbf] at K1
            have HBF := hide hbf
            clear hbf
            go_wp2_with fail
            go_quiet (first | (go_at_call 19; exact Calls.quiet_of (K1.out _)))
            go_wp2
            go_meet
            case rel => exact ⟨rfl, ⟨true, rfl, by have h := HBE.out; rw [best, if_pos ⟨h2, HBF.out⟩] at h; simp; omega⟩, _, rfl⟩
          | false =>
            rw [hbf] at K1
            have HBF := hide hbf
            clear hbf
            go_wp2_with fail
            go_quiet (first | (go_at_call 19; exact Calls.quiet_of (K1.out _)))
            go_wp2
            go_meet
            case rel => exact ⟨rfl, ⟨false, rfl, by have h := HBE.out; rw [best, if_neg (by rw [HBF.out]; simp)] at h; simp; omega⟩, _, rfl⟩
        · have hd : decide (2 * (k : Int) + 1 + 1 < (m : Int)) = false := by simp; omega
          go_wp2_with fail
          go_quiet (fail)
          go_wp2
          go_meet
          case rel => exact ⟨rfl, ⟨false, rfl, by have h := HBE.out; rw [best, if_neg (by omega)] at h; simp; omega⟩, _, rfl⟩
      case rest =>
       obtain ⟨rfl, ⟨t, rfl, hbt⟩, q, rfl⟩ := hcut
       have HBT := hide hbt
       clear hbt
       go_upto_if 49 with fail
       go_cut [5] (fun v5 wd => v5 = .int .i64 (bb : Int) ∧ wd = wr.drewN q)
       case first =>
        have h := HBT.out
        cases t with
        | true =>
          rw [if_pos rfl] at h
          go_wp2
          go_meet
          case rel => exact ⟨by go_num, rfl⟩
        | false =>
          rw [if_neg (by simp)] at h
          go_wp2
          go_meet
          case rel => exact ⟨by go_num, rfl⟩
       case rest =>
        obtain ⟨rfl, hq⟩ := hcut
        have HH2 : Hid (Hm V ba cb pb n m ac A wc) := by rw [hq]; exact HH.out.drewN _
        have HT2 : Hid (St cb pb m n k e p wc) := by rw [hq]; exact HT.out.drewN _
        have HK2 : Hid (Kept cb pb w wc) := by rw [hq]; exact HK.out.drewN _
        clear hq HH HT HK c1 d2
        have d2 := HH2.out.c2
        have c1 := HT2.out.ch _ hb1 (by omega)
        have jb := ixc.out _ hb1
        have K1 := hide (bef19 V ba n A (e bb) c wc (HT2.out.fits.2 _ hb1) hcn HH2.out.c0 HH2.out.act)
        go_wp2_with fail
        refine K1.out.mono ?_
        rintro e' w2 ⟨rfl, q2, rfl⟩
        cases hbf : bef A (e bb) c with
        | true =>
          have HBF := hide hbf
          clear hbf
          go_wp2_with fail
          refine (put20' V cb pb m n k (e bb) ac (wc.drewN q2) hkm (HT2.out.fits.2 _ hb1) hm (by omega) (by omega) HH2.out.c1 HH2.out.c2 (ixc.out _ hkm) HH2.out.tc HH2.out.tp).mono ?_
          rintro e' w3 ⟨rfl, rfl⟩
          go_wp2
          go_roundg f'
          case measure => omega
          case rel =>
            refine ⟨f', bb, swp e k bb, _, Nat.le_refl _, hb1, by omega, rfl, ?_, ?_, (HH2.out.drewN _).put o1 o2 o3 _ _ _ _, (HT2.out.drewN _).put o2 HH2.out.tc HH2.out.tp hkm hb1 (by omega), (HK2.out.drewN _).put o2 _ _ _ _⟩
            · have hne : ¬ bb = k := by omega
              show swp e k bb bb = c
              rw [← HEK.out]
              simp [swp, hne]
            · have := sift_go HS.out h1 (by rw [HBE.out, HEK.out]; exact HBF.out)
              rwa [HBE.out] at this
        | false =>
          have HBF := hide hbf
          clear hbf
          go_wp2_with fail
          refine (put20' V cb pb m n k c ac (wc.drewN q2) hkm hcn hm (by omega) (by omega) HH2.out.c1 HH2.out.c2 (ixc.out _ hkm) HH2.out.tc HH2.out.tp).mono ?_
          rintro e' w3 ⟨rfl, rfl⟩
          go_wp2
          go_end0
          have hc' := HEK.out
          have := sift_rest HS.out h1 (by rw [HBE.out, HEK.out]; exact HBF.out)
          subst this
          rw [← hc']
          exact ⟨rfl, (HK2.out.drewN _).put o2 _ _ _ _, (HT2.out.drewN _).last o2 HH2.out.tc HH2.out.tp hkm⟩
    · go_wp2_with fail
      refine (put20' V cb pb m n k c ac wr hkm hcn hm (by omega) (by omega) HH.out.c1 HH.out.c2 (ixc.out _ hkm) HH.out.tc HH.out.tp).mono ?_
      rintro e' w2 ⟨rfl, rfl⟩
      go_wp2
      go_end0
      have hc' := HEK.out
      have := sift_stop HS.out h1
      subst this
      rw [← hc']
      exact ⟨rfl, HK.out.put o2 _ _ _ _, HT.out.last o2 HH.out.tc HH.out.tp hkm⟩
end Go.Proofs.Ybulkeepk.Hp

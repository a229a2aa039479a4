import Derived.Test.YbulkeengLaws
import Derived.Deep.DeepCutAuto
import Derived.Deep.RegionLaw
import Derived.Deep.CutBlock
import Derived.OpenShut
namespace Go.Proofs.Ybulkeeng
open Go.RowKit
set_option linter.unusedVariables false

theorem B0 : IsB (.int .u8 0) := IsB.mk (by decide) (by decide)
theorem B1 : IsB (.int .u8 1) := IsB.mk (by decide) (by decide)
theorem B3 : IsB (.int .u8 3) := IsB.mk (by decide) (by decide)
theorem src_at {w : World} {g cap : Nat} (h : Bys w g cap) (o : Nat) (ho : o + 4 ≤ cap) : Src w (some ⟨g, o, none⟩) 4 :=
  .inr ⟨_, rfl, fun j hj => by rw [Go.WideShapes.add_plain]; exact h.cell (o + j) (by omega)⟩
theorem row_list {w : World} {g : Nat} {r : Nat → Int} : ∀ {k : Nat}, Spells w g k r → ∃ l : List Int, l.length = k ∧ ∀ i, i < k → w.cell? ⟨g, i, none⟩ = some (.int .u8 (l.getD i 0)) := by
  intro k h
  refine ⟨(List.range k).map r, by simp, fun i hi => ?_⟩
  rw [(h i hi).1, List.getD_eq_getElem?_getD]
  simp [hi]
theorem cells_of {w : World} {g k : Nat} {l : List Int} (e : l.length = k) (f : ∀ i, i < k → w.cell? ⟨g, i, none⟩ = some (.int .u8 (l.getD i 0))) : ∀ j u, (l.map (Value.int .u8))[j]? = some u → w.cell? ((⟨g, 0, none⟩ : Addr).add j) = some u := by
  intro j u hj
  rw [List.getElem?_map] at hj
  have hlt : j < l.length := by
    rcases Nat.lt_or_ge j l.length with h | h
    · exact h
    · rw [List.getElem?_eq_none h] at hj; cases hj
  rw [List.getElem?_eq_getElem hlt] at hj
  rw [Go.WideShapes.add_plain, Nat.zero_add, f j (by omega), List.getD_eq_getElem?_getD, List.getElem?_eq_getElem hlt]
  exact hj
theorem own_later {w w' : World} {base : Nat} {v : Value} {n : Nat} {xs : List Value} (h : w.ownsRow base 5 1 v n xs) (hb : Below w.heap.size w w') : w'.ownsRow base 5 1 v n xs := by
  refine ⟨h.1, ?_⟩
  rcases h.2 with h2 | ⟨g, cap, cur, hv, hg, hh, r⟩
  · exact .inl h2
  · exact .inr ⟨g, cap, cur, hv, hg, by rw [hb.block _ (Array.getElem?_eq_some_iff.1 hh).1]; exact hh, r⟩
theorem own_conv {w : World} {base : Nat} {v : Value} {n : Nat} {l : List Int} (e : l.length = n) (h : w.ownsRow base 5 1 v n (l.map (Value.int .u8))) : Sem.run Yba.prog (convert 22 9 v) w = .ok (.string (strOfNums l)) w := by
  rcases h.2 with ⟨rfl, h0⟩ | ⟨g, cap, cur, rfl, _⟩
  · have : l = [] := List.eq_nil_of_length_eq_zero (by omega)
    subst this
    exact run_convert_bytes_nil (P := Yba.prog) w 22 5 Yba.underlying22 Yba.underlying5 0 0 9 Yba.underlying9
  · have hc := h.cells (g := g) rfl
    refine run_convert_bytes_arg (P := Yba.prog) w 22 5 Yba.underlying22 Yba.underlying5 g 0 n cap l e ?_ 9 Yba.underlying9
    intro i hi
    have h1 := hc i (.int .u8 (l.getD i 0)) (by rw [List.getElem?_map, List.getElem?_eq_getElem (by omega), List.getD_eq_getElem?_getD, List.getElem?_eq_getElem (by omega)]; rfl)
    rw [Go.WideShapes.add_plain] at h1
    exact h1
theorem clones {w : World} {g1 k c1 g2 m c2 : Nat} {r q : Nat → Int} (hr : Spells w g1 c1 r) (hq : Spells w g2 c2 q) (hk : k ≤ c1) (hm : m ≤ c2) (hkb : k ≤ 2000000) (hmb : m ≤ 2000000) :
    ∀ wx, Below w.heap.size w wx → Calls Yba.prog 10 #[.slice (some ⟨g1, 0, none⟩) k c1] wx fun e w1 => ∃ v1, e = .returned v1 ∧ Below wx.heap.size wx w1 ∧
      Calls Yba.prog 10 #[.slice (some ⟨g2, 0, none⟩) m c2] w1 fun e w2 => ∃ v2, e = .returned v2 ∧ Below w1.heap.size w1 w2 ∧
        ∀ wy, Below w2.heap.size w2 wy → (Calls Yba.prog 12 #[.slice (some ⟨g1, 0, none⟩) k c1, v1] wy fun e w' => e = .returned (.bool true) ∧ w' = wy) ∧
          (Calls Yba.prog 12 #[.slice (some ⟨g2, 0, none⟩) m c2, v2] wy fun e w' => e = .returned (.bool true) ∧ w' = wy) := by
  intro wx hx
  have hr' := hr.below hx
  have hq' := hq.below hx
  obtain ⟨l1, e1, f1⟩ := row_list (hr'.mono hk)
  refine (clone10 ⟨g1, 0, none⟩ k c1 (l1.map (Value.int .u8)) wx (by simp [e1]) hkb (cells_of e1 f1) (by intro u hu; obtain ⟨z, _, rfl⟩ := List.mem_map.1 hu; rfl)).mono ?_
  rintro e w1 ⟨v1, rfl, hown1, _, hb1⟩
  refine ⟨v1, rfl, hb1, ?_⟩
  obtain ⟨l2, e2, f2⟩ := row_list ((hq'.below hb1).mono hm)
  refine (clone10 ⟨g2, 0, none⟩ m c2 (l2.map (Value.int .u8)) w1 (by simp [e2]) hmb (cells_of e2 f2) (by intro u hu; obtain ⟨z, _, rfl⟩ := List.mem_map.1 hu; rfl)).mono ?_
  rintro e w2 ⟨v2, rfl, hown2, _, hb2⟩
  refine ⟨v2, rfl, hb2, fun wy hy => ⟨?_, ?_⟩⟩
  · refine equal12 _ _ (strOfNums l1) wy ?_ ?_
    · refine run_convert_bytes_arg (P := Yba.prog) wy 22 5 Yba.underlying22 Yba.underlying5 g1 0 k c1 l1 e1 ?_ 9 Yba.underlying9
      intro i hi
      have h := f1 i hi
      rw [Nat.zero_add, hy.cell (Nat.lt_of_lt_of_le (cell_lt h) (Nat.le_trans hb1.size hb2.size)), hb2.cell (Nat.lt_of_lt_of_le (cell_lt h) hb1.size), hb1.cell (cell_lt h)]
      exact h
    · exact own_conv e1 (own_later (own_later hown1 hb2) hy)
  · refine equal12 _ _ (strOfNums l2) wy ?_ ?_
    · refine run_convert_bytes_arg (P := Yba.prog) wy 22 5 Yba.underlying22 Yba.underlying5 g2 0 m c2 l2 e2 ?_ 9 Yba.underlying9
      intro i hi
      have h := f2 i hi
      rw [Nat.zero_add, hy.cell (Nat.lt_of_lt_of_le (cell_lt h) hb2.size), hb2.cell (cell_lt h)]
      exact h
    · exact own_conv e2 (own_later hown2 hy)
theorem drewN_below (w : World) (n : Nat) : Below w.heap.size w (w.drewN n) := ⟨rfl, rfl, rfl, Nat.le_refl _, fun _ _ => rfl⟩
theorem hide {p : Prop} (h : p) : Hid p := h

set_option maxHeartbeats 4000000 in
set_option maxRecDepth 100000 in
theorem walkC (a0 : Option Addr) (len0 cap0 : Nat) (a1 : Option Addr) (len1 cap1 : Nat) (a2 : Bool) (a3 a4 a5 : Int) (w : World) (hlen : len0 + len1 ≤ 1048576)
    (s0 : Aside (∀ wx, Below w.heap.size w wx → Src wx a0 len0)) (s1 : Aside (∀ wx, Below w.heap.size w wx → Src wx a1 len1))
    (p3 : 0 ≤ a3) (p3' : a3 ≤ 255) (p4 : 0 ≤ a4) (p4' : a4 ≤ 255) (p5 : 0 ≤ a5) (p5' : a5 ≤ 255) :
    Calls Yba.prog 4 #[.slice a0 len0 cap0, .slice a1 len1 cap1, .bool a2, .int .u8 a3, .int .u8 a4, .int .u8 a5] w fun e w' => e = .returned (.bool true) ∧ Below w.heap.size w w' := by
  have mk1 := fun wx => run_make5 wx len1 (by omega)
  have mk0 := fun wx => run_make5 wx len0 (by omega)
  have bz := fun wx : World => Bys.ofAlloc (w := wx) (bytes_zero len1)
  go_enter Yba.func4, Yba.ntmps4
  go_upto_if 34 with (refine wpList_copy_bytes rfl (.tmp 29) (.tmp 30) rfl w.heap.size 0 len1 len1 len1 rfl a1 len1 cap1 rfl ?c1 ?c2 ?c3 ?_)
  case c1 => have := bz w; rwa [size_madeCells] at this
  case c2 => omega
  case c3 => exact s1.out _ ((Below.refl _ _).alloc (Nat.le_refl _) _)
  intro w1 hB1 hy1
  have R1 : Bys w1 w.heap.size len1 := hy1 _ _ (by have := bz w; rwa [size_madeCells] at this)
  have L1 : Below w.heap.size w w1 := ((Below.refl _ w).alloc (Nat.le_refl _) _).trans (hB1 _ (Nat.le_refl _))
  clear hB1 hy1 bz
  go_upto_if 34 with fail
  go_cut [13] (fun v wc => Below w.heap.size w wc ∧ ∃ n, 16 ≤ n ∧ n ≤ 1048592 ∧ BRow w.heap.size wc v n)
  case first =>
    by_cases h16 : len1 < 16
    · go_wp2_with (at_builtin; refine wpList_append_zeros rfl (.tmp 35) (.tmp 38) rfl w.heap.size len1 (16 - len1) rfl ?d1 R1 ?d2 ?d3 ?_)
      case d1 => show Value.int .i64 _ = _; congr 1; omega
      case d2 => omega
      case d3 => omega
      intro v' w2 hrow hb2 hy2
      go_wp2
      go_meet
      case rel => exact ⟨L1.trans (hb2.mono L1.size), len1 + (16 - len1), by omega, by omega, by
        obtain ⟨g, cap, h1, h2, h3⟩ := hrow
        exact ⟨g, cap, h1, Nat.le_trans L1.size h2, h3⟩⟩
    · go_wp2
      go_meet
      case rel => exact ⟨L1, len1, by omega, by omega, _, _, rfl, Nat.le_refl _, Nat.le_refl _, R1⟩
  case rest =>
    clear R1 L1 mk1
    obtain ⟨L2, n, hn16, hnb, g, cap, rfl, hg, hnc, R2⟩ := hcut

    go_upto_block 0 with fail
    go_cut [] (fun wc => Below w.heap.size w wc ∧ Bys wc g cap)
    case first =>
      obtain ⟨z8, c8, _, _⟩ := R2.cell 8 (by omega)
      obtain ⟨z9, c9, _, _⟩ := R2.cell 9 (by omega)
      obtain ⟨z10, c10, _, _⟩ := R2.cell 10 (by omega)
      obtain ⟨z11, c11, _, _⟩ := R2.cell 11 (by omega)
      have f8 := R2.frozen 8
      have f9 := R2.frozen 9
      have f10 := R2.frozen 10
      have f11 := R2.frozen 11
      have HR := hide R2
      clear R2
      go_wp2
      all_goals go_meet
      · exact ⟨(((L2.setCell hg _).setCell hg _).setCell hg _).setCell hg _, (((HR.out.setCell g 8 B0).setCell g 9 B0).setCell g 10 B0).setCell g 11 B0⟩
      · exact ⟨(((L2.setCell hg _).setCell hg _).setCell hg _).setCell hg _, (((HR.out.setCell g 8 B0).setCell g 9 B0).setCell g 10 B0).setCell g 11 B1⟩
      · exact ⟨L2, HR.out⟩
    case rest =>
      clear R2 L2
      obtain ⟨L3, R3⟩ := hcut
      have bz := fun wx : World => Bys.ofAlloc (w := wx) (bytes_zero len0)
      have hpad : 0 ≤ a5 % 24 ∧ a5 % 24 ≤ 23 := by omega
      go_upto_if 74 with (refine wpList_copy_bytes rfl (.tmp 65) (.tmp 66) rfl _ 0 len0 len0 len0 rfl a0 len0 cap0 rfl ?c1 ?c2 ?c3 ?_)
      case c1 => have := bz wc; rwa [size_madeCells] at this
      case c2 => omega
      case c3 => exact s0.out _ (L3.alloc L3.size _)
      intro w4 hB4 hy4
      have hgw := L3.size
      have R4 : Bys w4 wc.heap.size len0 := hy4 _ _ (by have := bz wc; rwa [size_madeCells] at this)
      have R3' : Bys w4 g cap := hy4 _ _ (R3.alloc _)
      have L4 : Below w.heap.size w w4 := (L3.alloc L3.size _).trans (hB4 _ hgw)
      clear hB4 hy4 bz R3 L3 mk0
      go_upto_if 74 with fail
      go_cut [14] (fun v w5 => Below w.heap.size w w5 ∧ Bys w5 g cap ∧ ∃ k, k ≤ 1048600 ∧ BRow w.heap.size w5 v k)
      case first =>
        by_cases hp : (len0 : Int) < a5 % 24
        · go_wp2_with (at_builtin; refine wpList_append_zeros rfl (.tmp 75) (.tmp 79) rfl wc.heap.size len0 ((a5 % 24).toNat - len0) rfl ?d1 R4 ?d2 ?d3 ?_)
          case d1 => show Value.int .i64 _ = _; congr 1; omega
          case d2 => omega
          case d3 => omega
          intro v' w5 hrow hb5 hy5
          go_wp2
          go_meet
          case rel => exact ⟨L4.trans (hb5.mono L4.size), hy5 _ _ R3', len0 + ((a5 % 24).toNat - len0), by omega, by
            obtain ⟨g, cap, h1, h2, h3⟩ := hrow
            exact ⟨g, cap, h1, Nat.le_trans L4.size h2, h3⟩⟩
        · go_wp2
          go_meet
          case rel => exact ⟨L4, R3', len0, by omega, _, _, rfl, hgw, Nat.le_refl _, R4⟩
      case rest =>
        clear R4 R3' L4 hgw hpad
        obtain ⟨L5, R5, k, hk, g2, cap2, rfl, hg2, hkc, Q5⟩ := hcut
        go_upto_region 23 with fail
        go_cut [86] (fun v w6 => v = .bool (a2 && decide (8 ≤ (k : Int))) ∧ w6 = wc)
        case first =>
          cases a2
          · go_wp2
            go_meet
            case rel => exact ⟨rfl, rfl⟩
          · go_wp2
            go_meet
            case rel => exact ⟨rfl, rfl⟩
        case rest =>
          obtain ⟨rfl, rfl⟩ := hcut
          go_upto_if 86 with fail
          go_cut [] (fun w6 => Below w.heap.size w w6 ∧ Bys w6 g cap ∧ Bys w6 g2 cap2)
          case first =>
            by_cases h8 : a2 = true ∧ 8 ≤ k
            · obtain ⟨rfl, h8⟩ := h8
              have hd : (true && decide (8 ≤ (k : Int))) = true := by simp; omega
              rw [hd]
              have hS := src_at R5 12 (by omega)
              have hP := hide Q5
              have hQ := hide R5
              clear Q5 R5
              have b1 : (8 : Int) ≤ cap2 := by omega
              have b2 : ¬ cap2 = 4 := by omega
              have b3 : (16 : Int) ≤ cap := by omega
              have b4 : ¬ cap = 12 := by omega
              go_upto_region 24 with fail
              go_region_law (refine step_copy_bytes rfl (.tmp 88) (.tmp 90) rfl g2 4 4 (cap2 - 4) cap2 rfl (some ⟨g, 12, none⟩) 4 (cap - 12) rfl (by exact hP.out) (by omega) (by exact hS) ?_; intro w7 hB7 hy7)
              all_goals
                go_wp2
                go_meet
                case rel => exact ⟨L5.drew.trans (hB7 _ hg2), hy7 _ _ hQ.out, hy7 _ _ hP.out⟩
            · have hd : (a2 && decide (8 ≤ (k : Int))) = false := by
                cases a2
                · rfl
                · simp at h8 ⊢; omega
              rw [hd]
              go_wp2
              go_meet
              case rel => exact ⟨L5, R5, Q5⟩
          case rest =>
            clear R5 L5 Q5
            obtain ⟨L6, R6, Q6⟩ := hcut
            go_upto_if 94 with fail
            go_cut [] (fun w7 => Below w.heap.size w w7 ∧ Bys w7 g cap ∧ Bys w7 g2 cap2)
            case first =>
              by_cases h4 : 4 ≤ k
              · obtain ⟨z0, c0, _, _⟩ := Q6.cell 0 (by omega)
                obtain ⟨z1, c1, _, _⟩ := Q6.cell 1 (by omega)
                obtain ⟨z2, c2, _, _⟩ := Q6.cell 2 (by omega)
                obtain ⟨z3, c3, _, _⟩ := Q6.cell 3 (by omega)
                have f0 := Q6.frozen 0
                have f1 := Q6.frozen 1
                have f2 := Q6.frozen 2
                have f3 := Q6.frozen 3
                have hS := src_at R6 8 (by omega)
                have b1 : (4 : Int) ≤ cap2 := by omega
                have b2 : ¬ cap2 = 0 := by omega
                have b3 : (12 : Int) ≤ cap := by omega
                have b4 : ¬ cap = 8 := by omega
                have hP := hide Q6
                have hQ := hide R6
                clear Q6 R6
                go_wp2
                · go_meet
                  case rel => exact ⟨(((L6.setCell hg2 _).setCell hg2 _).setCell hg2 _).setCell hg2 _, (((hQ.out.setCell g2 0 B0).setCell g2 1 B0).setCell g2 2 B0).setCell g2 3 B3, (((hP.out.setCell g2 0 B0).setCell g2 1 B0).setCell g2 2 B0).setCell g2 3 B3⟩
                · go_region_law (refine step_copy_bytes rfl (.tmp 110) (.tmp 112) rfl g2 0 4 cap2 cap2 rfl (some ⟨g, 8, none⟩) 4 (cap - 8) rfl (by exact hP.out) (by omega) (by exact hS) ?_; intro w7 hB7 hy7)
                  all_goals
                    go_wp2
                    go_meet
                    case rel => exact ⟨L6.drew.trans (hB7 _ hg2), hy7 _ _ hQ.out, hy7 _ _ hP.out⟩
                · go_region_law (refine step_copy_bytes rfl (.tmp 117) (.tmp 119) rfl g2 0 4 cap2 cap2 rfl (some ⟨g, 8, none⟩) 4 (cap - 8) rfl (by exact hP.out) (by omega) (by exact hS) ?_; intro w7 hB7 hy7)
                  all_goals
                    have L7 := L6.drew.trans (hB7 _ hg2)
                    have R7 : Bys w7 g cap := hy7 _ _ hQ.out
                    have Q7 : Bys w7 g2 cap2 := hy7 _ _ hP.out
                    obtain ⟨z, c7, _, _⟩ := Q7.cell 3 (by omega)
                    have f7 := Q7.frozen 3
                    have hx := bounds_u8 (wf_bits BinOp.xor .u8 z 1)
                    have hBx : IsB (.int .u8 (bits BinOp.xor .u8 z 1)) := IsB.mk hx.1 hx.2
                    have hR7 := hide R7
                    have hQ7 := hide Q7
                    clear R7 Q7 hB7 hy7 hx
                    go_wp2
                    go_meet
                    case rel => exact ⟨L7.setCell hg2 _, hR7.out.setCell g2 3 hBx, hQ7.out.setCell g2 3 hBx⟩
                · go_meet
                  case rel => exact ⟨L6, hQ.out, hP.out⟩
              · go_wp2
                go_meet
                case rel => exact ⟨L6, R6, Q6⟩
            case rest =>
              clear L6 R6 Q6
              obtain ⟨L7, R7, Q7⟩ := hcut
              obtain ⟨r, hr⟩ := Q7.spells
              obtain ⟨q, hq⟩ := R7.spells
              obtain ⟨b, hM, hA⟩ := both g2 k cap2 g n cap wc r q hkc (by omega) hn16 hnc (by omega) (hr.mono hkc) (hq.mono hnc)
              have HM := hide hM
              have HA := hide hA
              have E := hide (clones hr hq hkc hnc (by omega) (by omega))
              clear hM hA hr hq R7 Q7
              go_wp2_with (first | (go_at_call 9; refine HM.out.mono ?_; rintro e w8 ⟨rfl, p8, rfl⟩))
              refine (E.out _ (drewN_below wc p8)).mono ?_
              rintro e w9 ⟨v1, rfl, hb9, E2⟩
              have HE2 := hide E2
              clear E2
              go_wp2_with fail
              refine HE2.out.mono ?_
              rintro e w10 ⟨v2, rfl, hb10, E3⟩
              have HE3 := hide E3
              clear E3
              have L10 : Below wc.heap.size wc w10 := ((drewN_below wc p8).trans hb9).trans (hb10.mono hb9.size)
              go_wp2_with fail
              refine (HA.out _ L10).mono ?_
              rintro e w11 ⟨rfl, hb11⟩
              have F1 := hide (HE3.out _ hb11).1
              have F2 := hide (HE3.out _ hb11).2
              go_wp2_with fail
              refine F1.out.mono ?_
              rintro e w12 ⟨rfl, rfl⟩
              go_wp2_with fail
              refine F2.out.mono ?_
              rintro e w12 ⟨rfl, rfl⟩
              go_wp2
              go_ret
              exact ⟨rfl, L7.trans ((L10.trans (hb11.mono L10.size)).mono L7.size)⟩
end Go.Proofs.Ybulkeeng

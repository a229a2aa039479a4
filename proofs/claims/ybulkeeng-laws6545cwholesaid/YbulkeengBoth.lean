import Derived.Test.YbulkeengModel
namespace Go.Proofs.Ybulkeeng
open Go.RowKit
set_option linter.unusedVariables false

set_option maxHeartbeats 2000000 in
set_option maxRecDepth 100000 in
theorem clone10 (a : Addr) (n c : Nat) (news : List Value) (w : World) (hl : news.length = n) (hn : n ≤ 2000000)
    (hc : ∀ j u, news[j]? = some u → w.cell? (a.add j) = some u) (h1 : ∀ u ∈ news, u.oneCell' = true) :
    Calls Yba.prog 10 #[.slice (some a) n c] w fun e w' => ∃ v', e = .returned v' ∧ w'.ownsRow w.heap.size 5 1 v' n news ∧ v' ≠ .slice none 0 0 ∧ Below w.heap.size w w' := by
  obtain ⟨i0, hi, hz0, hz1, hz2⟩ := info_parts info5
  have q22 : ∀ (w : World) (a : Option Addr) (n c n' c' : Nat), (binOp .eql 22 (.slice a n c) (.slice none n' c')).run Yba.prog w = .ok (.bool a.isNone) w := fun w a n c n' c' => Lib.run_eql_slice_nil w _ _ a n c n' c' Yba.underlying22
  have A : Aside (∀ j u, news[j]? = some u → w.cell? (a.add j) = some u) := hc
  clear hc
  go_enter Yba.func10, Yba.ntmps10
  go_wp2_with (at_builtin; refine wpList_append_own _ rfl _ _ 22 rfl w.heap.size 5 i0 (.int .u8 0) 1 1 Yba.underlying22 hi hz0 hz1 hz2 rfl (by decide) _ _ _ rfl (World.ownsRow_made w #[] 0 (Nat.le_refl _) (Nat.zero_le _) rfl) a n c news rfl ?qc1 ?qc2 ?qc3 ?qc4 ?qc5 ?qc6 ?_)
  case qc1 => rw [hl]; omega
  case qc2 =>
    intro j u hj
    exact Lib.cell?_alloc_some _ (A.out j u hj)
  case qc3 => exact h1
  case qc4 => unfold maxLen; omega
  case qc5 => omega
  case qc6 => simp
  intro v' w1 hown hgrow hnil
  go_wp2
  go_ret
  refine ⟨v', rfl, by simpa using hown, ?_, ?_⟩
  · first | exact hnil | (intro e; exact absurd (hnil.1 e).1 (by simp))
  · exact ((Below.refl _ w).alloc (Nat.le_refl _) _).grown hgrow (by simp) (by intro k hk; simp [Value.ownBlock] at hk; omega)

set_option maxHeartbeats 1000000 in
theorem equal12 (a1 a2 : Value) (s : ByteArray) (w : World) (k1 : Sem.run Yba.prog (convert 22 9 a1) w = .ok (.string s) w) (k2 : Sem.run Yba.prog (convert 22 9 a2) w = .ok (.string s) w) :
    Calls Yba.prog 12 #[a1, a2] w fun e w' => e = .returned (.bool true) ∧ w' = w := by
  go_enter Yba.func12, Yba.ntmps12
  go_wp2
  go_ret
  exact ⟨by simp, rfl⟩

theorem cell_lt {w : World} {a : Addr} {v : Value} (h : w.cell? a = some v) : a.block < w.heap.size := by
  rcases Nat.lt_or_ge a.block w.heap.size with h' | h'
  · exact h'
  · simp [World.cell?, Array.getElem?_eq_none h'] at h

theorem Spells.below {w w' : World} {g n : Nat} {r : Nat → Int} (h : Spells w g n r) (hb : Below w.heap.size w w') : Spells w' g n r := by
  intro i hi
  obtain ⟨h1, h2⟩ := h i hi
  exact ⟨by rw [hb.cell (cell_lt h1)]; exact h1, h2⟩

theorem Bys.spells {w : World} {g cap : Nat} (h : Bys w g cap) : ∃ r, Spells w g cap r := by
  obtain ⟨cur, hg, hs, hb⟩ := h
  subst hs
  refine ⟨fun i => intOf (cur.getD i undef), fun i hi => ?_⟩
  obtain ⟨z, hz, h0, h1⟩ := hb cur[i] (by simp)
  have e : cur.getD i undef = .int .u8 z := by simp [Array.getD, hi, hz]
  simp only [e, intOf]
  exact ⟨by simp [World.cell?, hg, hi, hz], h0, h1⟩

theorem Spells.mono {w : World} {g n m : Nat} {r : Nat → Int} (h : Spells w g n r) (hm : m ≤ n) : Spells w g m r := fun i hi => h i (by omega)

theorem conv (w : World) (g n o : Nat) (r : Nat → Int) (h : Spells w g n r) (ho : o + 4 ≤ n) (k c : Nat) :
    Sem.run Yba.prog (convert 22 9 (.slice (some ⟨g, o, none⟩) 4 c)) (w.drewN k) = .ok (.string (strOfNums [r o, r (o + 1), r (o + 2), r (o + 3)])) (w.drewN k) := by
  refine run_convert_bytes_arg (P := Yba.prog) (w.drewN k) 22 5 Yba.underlying22 Yba.underlying5 g o 4 c _ rfl ?_ 9 Yba.underlying9
  intro i hi
  show w.cell? _ = _
  rw [(h (o + i) (by omega)).1]
  match i, hi with
  | 0, _ => rfl
  | 1, _ => rfl
  | 2, _ => rfl
  | 3, _ => rfl

theorem byte_inj {a b : Int} (ha : 0 ≤ a) (ha' : a ≤ 255) (hb : 0 ≤ b) (hb' : b ≤ 255) (h : UInt8.ofNat a.toNat = UInt8.ofNat b.toNat) : a = b := by
  have := congrArg UInt8.toNat h
  simp only [UInt8.toNat_ofNat'] at this
  omega

theorem both (g1 n c1 g2 m c2 : Nat) (w : World) (r q : Nat → Int) (hn1 : n ≤ c1) (hn2 : n ≤ 2000000) (hm : 16 ≤ m) (hc : m ≤ c2) (hb : m ≤ 2000000) (hr : Spells w g1 n r) (hq : Spells w g2 m q) :
    ∃ b, (Calls Yba.prog 9 #[.slice (some ⟨g1, 0, none⟩) n c1, .slice (some ⟨g2, 0, none⟩) m c2] w fun e w' => e = .returned (.bool b) ∧ ∃ q, w' = w.drewN q) ∧
      ∀ wx, Below w.heap.size w wx → Calls Yba.prog 11 #[.slice (some ⟨g1, 0, none⟩) n c1, .slice (some ⟨g2, 0, none⟩) m c2] wx fun e w' => e = .returned (.bool b) ∧ Below wx.heap.size wx w' := by
  by_cases h8 : n < 8
  · exact ⟨false, model_short g1 n c1 g2 m c2 w h8, fun wx hx => ans_short g1 n c1 g2 m c2 wx h8 hm hc hb⟩
  · have hn : 8 ≤ n := by omega
    have kq : ∀ i, i < m → 0 ≤ q i ∧ q i ≤ 255 := fun i hi => (hq i hi).2
    have kr : ∀ i, i < n → 0 ≤ r i ∧ r i ≤ 255 := fun i hi => (hr i hi).2
    by_cases hall : ∀ j, j < 4 → r (4 + j) = q (12 + j)
    · refine ⟨endB n (u4 r 0) (u4 q 8), ?_, ?_⟩
      · refine model_rest g1 n c1 g2 m c2 w r q (u4 r 0) (u4 q 8) hn hn1 hn2 hm hc hb hr hq hall ?_ ?_
        · intro k
          refine (u32_13 g1 0 c1 (r 0) (r 1) (r 2) (r 3) (w.drewN k) (hr 0 (by omega)).1 (hr 1 (by omega)).1 (hr 2 (by omega)).1 (hr 3 (by omega)).1 (kr 0 (by omega)).1 (kr 0 (by omega)).2 (kr 1 (by omega)).1 (kr 1 (by omega)).2 (kr 2 (by omega)).1 (kr 2 (by omega)).2 (kr 3 (by omega)).1 (kr 3 (by omega)).2).mono ?_
          rintro e w' ⟨rfl, p, rfl⟩
          exact ⟨rfl, _, drewN_two _ _ _⟩
        · intro k
          refine (u32_13 g2 8 (c2 - 8) (q 8) (q 9) (q 10) (q 11) (w.drewN k) (hq 8 (by omega)).1 (hq 9 (by omega)).1 (hq 10 (by omega)).1 (hq 11 (by omega)).1 (kq 8 (by omega)).1 (kq 8 (by omega)).2 (kq 9 (by omega)).1 (kq 9 (by omega)).2 (kq 10 (by omega)).1 (kq 10 (by omega)).2 (kq 11 (by omega)).1 (kq 11 (by omega)).2).mono ?_
          rintro e w' ⟨rfl, p, rfl⟩
          exact ⟨rfl, _, drewN_two _ _ _⟩
      · intro wx hx
        have hr' := hr.below hx
        have hq' := hq.below hx
        refine ans_rest g1 n c1 g2 m c2 wx _ _ (u4 r 0) (u4 q 8) hn hn1 hn2 hm hc hb (conv wx g1 n 4 r hr' (by omega)) (conv wx g2 m 12 q hq' (by omega)) ?_ ?_ ?_
        · have e0 := hall 0 (by omega)
          have e1 := hall 1 (by omega)
          have e2 := hall 2 (by omega)
          have e3 := hall 3 (by omega)
          simp only [Nat.reduceAdd] at e0 e1 e2 e3 ⊢
          rw [e0, e1, e2, e3]
          simp
        · intro k
          refine (u32_14 g1 0 n c1 (r 0) (r 1) (r 2) (r 3) (wx.drewN k) (by omega) (hr' 0 (by omega)).1 (hr' 1 (by omega)).1 (hr' 2 (by omega)).1 (hr' 3 (by omega)).1 (kr 0 (by omega)).1 (kr 0 (by omega)).2 (kr 1 (by omega)).1 (kr 1 (by omega)).2 (kr 2 (by omega)).1 (kr 2 (by omega)).2 (kr 3 (by omega)).1 (kr 3 (by omega)).2).mono ?_
          rintro e w' ⟨rfl, hb'⟩
          exact ⟨rfl, hb'.os, hb'.tape, hb'.output, hb'.size, hb'.block⟩
        · intro wy hy
          have hq'' := hq'.below hy
          refine (act_15 g2 m c2 (q 8) (q 9) (q 10) (q 11) wy hm hc hb (hq'' 8 (by omega)).1 (hq'' 9 (by omega)).1 (hq'' 10 (by omega)).1 (hq'' 11 (by omega)).1 (kq 8 (by omega)).1 (kq 8 (by omega)).2 (kq 9 (by omega)).1 (kq 9 (by omega)).2 (kq 10 (by omega)).1 (kq 10 (by omega)).2 (kq 11 (by omega)).1 (kq 11 (by omega)).2).mono ?_
          rintro e w' ⟨rfl, hb'⟩
          exact ⟨rfl, hy.trans (hb'.mono hy.size)⟩
    · have hmis : ∃ j, j < 4 ∧ r (4 + j) ≠ q (12 + j) := by
        by_cases h0 : r 4 = q 12
        · by_cases h1 : r 5 = q 13
          · by_cases h2 : r 6 = q 14
            · by_cases h3 : r 7 = q 15
              · exfalso
                apply hall
                intro j hj
                match j, hj with
                | 0, _ => exact h0
                | 1, _ => exact h1
                | 2, _ => exact h2
                | 3, _ => exact h3
              · exact ⟨3, by omega, h3⟩
            · exact ⟨2, by omega, h2⟩
          · exact ⟨1, by omega, h1⟩
        · exact ⟨0, by omega, h0⟩
      refine ⟨false, model_tid g1 n c1 g2 m c2 w r q hn hn1 hn2 hm hc hb hr hq hmis, fun wx hx => ?_⟩
      have hr' := hr.below hx
      have hq' := hq.below hx
      refine ans_tid g1 n c1 g2 m c2 wx _ _ hn hn1 hn2 hm hc hb (conv wx g1 n 4 r hr' (by omega)) (conv wx g2 m 12 q hq' (by omega)) ?_
      rw [Bool.eq_false_iff]
      intro h
      have h := eq_of_beq h
      rw [ByteArray.toList_eq, ByteArray.toList_eq, strOfNums_data, strOfNums_data] at h
      simp only [List.map_cons, List.map_nil, List.cons.injEq, and_true, Nat.reduceAdd] at h
      obtain ⟨h0, h1, h2, h3⟩ := h
      apply hall
      intro j hj
      match j, hj with
      | 0, _ => exact byte_inj (kr 4 (by omega)).1 (kr 4 (by omega)).2 (kq 12 (by omega)).1 (kq 12 (by omega)).2 h0
      | 1, _ => exact byte_inj (kr 5 (by omega)).1 (kr 5 (by omega)).2 (kq 13 (by omega)).1 (kq 13 (by omega)).2 h1
      | 2, _ => exact byte_inj (kr 6 (by omega)).1 (kr 6 (by omega)).2 (kq 14 (by omega)).1 (kq 14 (by omega)).2 h2
      | 3, _ => exact byte_inj (kr 7 (by omega)).1 (kr 7 (by omega)).2 (kq 15 (by omega)).1 (kq 15 (by omega)).2 h3
end Go.Proofs.Ybulkeeng

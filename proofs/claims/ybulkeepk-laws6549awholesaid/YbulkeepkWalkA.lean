import Derived.Test.YbulkeepkCrowd
import Derived.Deep.DeepCutAuto
import Derived.Deep.CutBlock
namespace Go.Proofs.Ybulkeepk
open Go.RowKit
set_option linter.unusedVariables false

theorem info28 : (Yba.prog.info? 28).map (fun i => (i.zero, i.size, i.bytes)) = some (some (.agg #[.slice none 0 0, .slice none 0 0, .int .i64 0, .int .i64 0, .slice none 0 0, .int .i64 0, .pointer none]), 7, 104) := by kernel_rfl
theorem info37 : (Yba.prog.info? 37).map (fun i => (i.zero, i.size, i.bytes)) = some (some (.agg #[.slice none 0 0, .slice none 0 0, .slice none 0 0, .int .i64 0]), 4, 80) := by kernel_rfl
abbrev z28 : Array Value := #[.slice none 0 0, .slice none 0 0, .int .i64 0, .int .i64 0, .slice none 0 0, .int .i64 0, .pointer none]
abbrev z37 : Array Value := #[.slice none 0 0, .slice none 0 0, .slice none 0 0, .int .i64 0]

theorem run_make28 (w : World) (n : Nat) (hn : n ≤ 1048576) :
    Sem.run Yba.prog (Instr.makeSlice 24 (.int .i64 (n : Int)) (.int .i64 (n : Int))) w = .ok (.slice (some ⟨w.heap.size, 0, none⟩) n n) (w.alloc (.cells (madeCells z28 (n * 7)) 28)) := by
  obtain ⟨i0, hi, hz0, hz1, hz2⟩ := info_parts info28
  have h := run_make (P := Yba.prog) w 24 28 i0 _ Yba.underlying24 hi hz0 .i64 .i64 n n (by omega) (by omega) (by rw [hz2]; omega) (by omega)
  rw [hz1] at h
  simpa [Value.cells] using h
theorem run_make34 (w : World) (n : Nat) (hn : n ≤ 1048576) :
    Sem.run Yba.prog (Instr.makeSlice 29 (.int .i64 (n : Int)) (.int .i64 (n : Int))) w = .ok (.slice (some ⟨w.heap.size, 0, none⟩) n n) (w.alloc (.cells (madeCells (wc3 0 0 0) (n * 3)) 34)) := by
  obtain ⟨i0, hi, hz0, hz1, hz2⟩ := info_parts info34
  have h := run_make (P := Yba.prog) w 29 34 i0 _ Yba.underlying29 hi hz0 .i64 .i64 n n (by omega) (by omega) (by rw [hz2]; omega) (by omega)
  rw [hz1] at h
  simpa [Value.cells] using h
theorem run_make37 (w : World) (n : Nat) (hn : n ≤ 1048576) :
    Sem.run Yba.prog (Instr.makeSlice 35 (.int .i64 (n : Int)) (.int .i64 (n : Int))) w = .ok (.slice (some ⟨w.heap.size, 0, none⟩) n n) (w.alloc (.cells (madeCells z37 (n * 4)) 37)) := by
  obtain ⟨i0, hi, hz0, hz1, hz2⟩ := info_parts info37
  have h := run_make (P := Yba.prog) w 35 37 i0 _ Yba.underlying35 hi hz0 .i64 .i64 n n (by omega) (by omega) (by rw [hz2]; omega) (by omega)
  rw [hz1] at h
  simpa [Value.cells] using h

theorem wrap64u (n : Int) : IntKind.u64.wrap n = n % 18446744073709551616 := by simp [IntKind.wrap, IntKind.bits, IntKind.signed]
theorem there_of {w : World} {b : Nat} {C : Array Value} {t : TypeId} (hb : w.heap[b]? = some (.cells C t (0, 0))) : w.there b 0 C.size := by
  intro j hj
  rw [Nat.zero_add]
  exact ⟨by simp [World.cell?, hb, hj], by simp [World.frozen?, hb]⟩
theorem there_sub {w : World} {b n o m : Nat} (h : w.there b 0 n) (hm : o + m ≤ n) : w.there b o m := by
  intro j hj
  have := h (o + j) (by omega)
  rwa [Nat.zero_add] at this
theorem cell_row {w : World} {b i : Nat} {C : Array Value} {t : TypeId} {v : Value} (hb : w.heap[b]? = some (.cells C t (0, 0))) (h : C[i]? = some v) : w.cell? ⟨b, i, none⟩ = some v := by
  simp [World.cell?, hb, h]
theorem there_made (w : World) (z : Array Value) (n : Nat) (t : TypeId) : (w.alloc (.cells (madeCells z n) t)).there w.heap.size 0 n := by
  have h := there_of (top w (.cells (madeCells z n) t) _ rfl)
  rwa [size_madeCells] at h
theorem there_cell {w : World} {b n : Nat} (h : w.there b 0 n) (i : Nat) (hi : i < n) : ∃ v, w.cell? ⟨b, i, none⟩ = some v := by
  have := (h i hi).1
  rw [Nat.zero_add] at this
  exact Option.isSome_iff_exists.1 this
theorem there_frozen {w : World} {b n : Nat} (h : w.there b 0 n) (i : Nat) (hi : i < n) : w.frozen? ⟨b, i, none⟩ = false := by
  have := (h i hi).2
  rwa [Nat.zero_add] at this
theorem there_set {w : World} {b n : Nat} (h : w.there b 0 n) (b' i : Nat) (v : Value) : (w.setCell ⟨b', i, none⟩ v).there b 0 n := World.there_setCells h b' i [v]
theorem cell_set {w : World} {b i b' i' : Nat} {v u : Value} (h : w.cell? ⟨b, i, none⟩ = some v) (hne : ¬ (b = b' ∧ i = i')) : (w.setCell ⟨b', i', none⟩ u).cell? ⟨b, i, none⟩ = some v := by
  rw [World.cell?_setCell_other _ _ _ _ (fun e => hne (by injection e with e1 e2; exact ⟨e1.symm, e2.symm⟩))]
  exact h

theorem ix29 (M len c i : Nat) (hi : i < len) (w : World) : Sem.run Yba.prog (Instr.indexAt 29 (.slice (some ⟨M, 0, none⟩) len c) (.int .i64 (i : Int))) w = .ok (.pointer (some ⟨M, i * 3, none⟩)) w := by
  have h1 : (0 : Int) ≤ (i : Int) ∧ (i : Int) < (len : Int) := by omega
  have hu : Yba.prog.elem 29 = 34 := by kernel_rfl
  rw [run_indexAt_slice w 29 ⟨M, 0, none⟩ len c .i64 i (by rw [hu]; exact Yba.underlying29), if_pos h1, hu, Yba.sizeOf34]
  simp [Addr.add_mid]

/-- The cells of L writes, one behind the other. -/
def flat (x y z : Nat → Int) : Nat → List Value
  | 0 => []
  | n + 1 => flat x y z n ++ (wc3 (x n) (y n) (z n)).toList
theorem flat_length (x y z : Nat → Int) : ∀ n, (flat x y z n).length = n * 3
  | 0 => rfl
  | n + 1 => by rw [flat, List.length_append, flat_length x y z n]; simp; omega
theorem flat_get (x y z : Nat → Int) : ∀ n i t, i < n → t < 3 → (flat x y z n)[i * 3 + t]? = (wc3 (x i) (y i) (z i)).toList[t]?
  | 0, i, t, h, _ => by omega
  | n + 1, i, t, h, ht => by
    rw [flat]
    by_cases e : i = n
    · subst e
      rw [List.getElem?_append_right (by rw [flat_length]; omega), flat_length]
      congr 1; omega
    · rw [List.getElem?_append_left (by rw [flat_length]; omega)]
      exact flat_get x y z n i t (by omega) ht
theorem flat_inv (x y z : Nat → Int) (n j : Nat) (u : Value) (h : (flat x y z n)[j]? = some u) : ∃ i t, j = i * 3 + t ∧ i < n ∧ t < 3 ∧ (wc3 (x i) (y i) (z i)).toList[t]? = some u := by
  have hj : j < n * 3 := by have := (List.getElem?_eq_some_iff.1 h).1; rwa [flat_length] at this
  refine ⟨j / 3, j % 3, by omega, by omega, by omega, ?_⟩
  rw [← flat_get x y z n (j / 3) (j % 3) (by omega) (by omega), show j / 3 * 3 + j % 3 = j by omega]
  exact h
theorem flat_one (x y z : Nat → Int) (n : Nat) : ∀ u ∈ flat x y z n, u.oneCell' = true := by
  intro u hu
  obtain ⟨j, hj⟩ := List.getElem?_of_mem hu
  obtain ⟨i, t, _, _, ht, e⟩ := flat_inv x y z n j u hj
  match t, ht with
  | 0, _ => simp at e; subst e; rfl
  | 1, _ => simp at e; subst e; rfl
  | 2, _ => simp at e; subst e; rfl

theorem clone_all {w : World} (aw : Option Addr) (L cw b1 : Nat) (x y z : Nat → Int) (haw : (aw = none ∧ L = 0) ∨ aw = some ⟨b1, 0, none⟩) (hL : L ≤ 1048576) (hr : ∀ i, i < L → w.rangeAt b1 (i * 3) (wc3 (x i) (y i) (z i)).toList) :
    Calls Yba.prog 6 #[.slice aw L cw] w fun e w' => ∃ ac cc b2, e = .returned (.slice ac L cc) ∧ Below w.heap.size w w' ∧ (∀ i, i < L → ∀ wx, Sem.run Yba.prog (Instr.indexAt 29 (.slice ac L cc) (.int .i64 (i : Int))) wx = .ok (.pointer (some ⟨b2, i * 3, none⟩)) wx) ∧ (∀ i, i < L → w'.rangeAt b2 (i * 3) (wc3 (x i) (y i) (z i)).toList) := by
  rcases haw with ⟨rfl, rfl⟩ | rfl
  · refine (clone6_nil 0 cw w).mono ?_
    rintro e w' ⟨rfl, rfl⟩
    exact ⟨none, 0, 0, rfl, Below.refl _ _, fun i hi => by omega, fun i hi => by omega⟩
  · refine (clone6 ⟨b1, 0, none⟩ L cw (flat x y z L) w (flat_length x y z L) hL ?_ (flat_one x y z L)).mono ?_
    · intro j u hj
      obtain ⟨i, t, rfl, hi, ht, e⟩ := flat_inv x y z L j u hj
      rw [Addr.add_mid, Nat.zero_add]
      exact hr i hi t u e
    · rintro e w' ⟨v', rfl, hown, _, hb⟩
      rcases hown.2 with ⟨rfl, h0⟩ | ⟨g, cap, cur, rfl, _⟩
      · subst h0
        exact ⟨none, 0, 0, rfl, hb, fun i hi => by omega, fun i hi => by omega⟩
      · have hcs := hown.cells (g := g) rfl
        refine ⟨some ⟨g, 0, none⟩, cap, g, rfl, hb, fun i hi wx => ix29 g L cap i hi wx, fun i hi t u hu => ?_⟩
        have ht : t < 3 := by have := (List.getElem?_eq_some_iff.1 hu).1; simpa using this
        have := hcs (i * 3 + t) u (by rw [flat_get x y z L i t hi ht]; exact hu)
        rwa [Addr.add_mid, Nat.zero_add] at this

theorem first_ne (p : Nat → Prop) : ∀ L, ∃ m, m ≤ L ∧ (∀ i, i < m → p i) ∧ (m < L → ¬ p m)
  | 0 => ⟨0, Nat.le_refl _, fun i hi => by omega, fun h => by omega⟩
  | L + 1 => by
    obtain ⟨m, h1, h2, h3⟩ := first_ne p L
    rcases Nat.lt_or_ge m L with h | h
    · exact ⟨m, by omega, h2, fun _ => h3 h⟩
    · by_cases hp : p m
      · refine ⟨m + 1, by omega, fun i hi => ?_, fun h => by omega⟩
        by_cases e : i = m
        · subst e; exact hp
        · exact h2 i (by omega)
      · exact ⟨m, by omega, h2, fun _ => hp⟩

theorem met_rel (w7 : World) (x y z : Int) (q : Nat) {u v : Value} :
    u = u ∧ v = v ∧ Below (w7.heap.size + 1) (w7.alloc (.cells (wc3 x y z) 34)) (((w7.alloc (.cells (wc3 x y z) 34)).drewN q).alloc (.cells (wc3 x y z) 34)) ∧
      (((w7.alloc (.cells (wc3 x y z) 34)).drewN q).alloc (.cells (wc3 x y z) 34)).cell? ⟨w7.heap.size + 1, 0, none⟩ = some (.int .i64 x) ∧
      (((w7.alloc (.cells (wc3 x y z) 34)).drewN q).alloc (.cells (wc3 x y z) 34)).cell? ⟨w7.heap.size + 1, 1, none⟩ = some (.int .i64 y) ∧
      (((w7.alloc (.cells (wc3 x y z) 34)).drewN q).alloc (.cells (wc3 x y z) 34)).cell? ⟨w7.heap.size + 1, 2, none⟩ = some (.int .i64 z) := by
  have hs : w7.heap.size + 1 = ((w7.alloc (.cells (wc3 x y z) 34)).drewN q).heap.size := by show _ = (w7.heap.push _).size; simp
  have ht := top ((w7.alloc (.cells (wc3 x y z) 34)).drewN q) (.cells (wc3 x y z) 34) _ hs
  refine ⟨rfl, rfl, ?_, cell_row ht rfl, cell_row ht rfl, cell_row ht rfl⟩
  refine Below.alloc ?_ (by rw [← hs]; exact Nat.le_refl _) _
  exact ⟨rfl, rfl, rfl, Nat.le_refl _, fun _ _ => rfl⟩

set_option maxHeartbeats 4000000 in
set_option maxRecDepth 100000 in
theorem walkA (a0 : Option Addr) (len0 cap0 : Nat) (a1 : Option Addr) (len1 cap1 : Nat) (a2 a3 : Int) (w : World) (kb ko bb bo : Nat) (o : Nat → Int) (Im Ow Opn : Nat → Int) (it : Nat → Nat) (nn ti : Nat)
    (hlen : len0 + len1 ≤ 1048576) (p2 : 0 ≤ a2) (p2' : a2 ≤ 255) (p3 : 0 ≤ a3) (p3' : a3 ≤ 255) (hnn : a3 % 4 + 1 = (nn : Int)) (hti : a2 % (nn : Int) = (ti : Int)) (n4 : nn ≤ 4) (n0 : 0 < nn) (htin : ti < nn)
    (ix0 : Hid (∀ i, i < len0 → ∀ wx, Sem.run Yba.prog (Instr.indexAt 22 (.slice a0 len0 cap0) (.int .i64 (i : Int))) wx = .ok (.pointer (some ⟨kb, ko + i, none⟩)) wx))
    (c0 : Hid (∀ i, i < len0 → w.cell? ⟨kb, ko + i, none⟩ = some (.int .i64 (o i))))
    (ix1 : Hid (∀ i, i < len1 → ∀ wx, Sem.run Yba.prog (Instr.indexAt 23 (.slice a1 len1 cap1) (.int .i64 (i : Int))) wx = .ok (.pointer (some ⟨bb, bo + i * 3, none⟩)) wx))
    (c1 : Hid (∀ i, i < len1 → w.rangeAt bb (bo + i * 3) [.int .u64 (Im i), .int .i64 (Ow i), .int .i64 (Opn i)] ∧ 0 ≤ Im i ∧ Im i ≤ 18446744073709551615))
    (hit : Hid (∀ i, i < len1 → 0 < len0 → Im i % (len0 : Int) = (it i : Int) ∧ it i < len0)) :
    Calls Yba.prog 3 #[.slice a0 len0 cap0, .slice a1 len1 cap1, .int .u8 a2, .int .u8 a3] w fun e w' => e = .returned (.bool true) ∧ Below w.heap.size w w' := by
  have mk0 := fun wx => run_make28 wx len0 (by omega)
  have HTI := hide hti
  clear hti
  go_enter Yba.func3, Yba.ntmps3
  go_upto_block 0 with fail
  go_cut [] (fun wc => Below w.heap.size w wc ∧ wc.heap.size = w.heap.size + 1 ∧ ∀ j, j < len0 → wc.cell? ⟨w.heap.size, j * 7 + 5, none⟩ = some (.int .i64 (o j)))
  case first =>
    clear hnn
    go_wp2_with fail
    go_loopg [45] len0 (fun g s45 wr => ∃ k : Nat, k ≤ len0 ∧ len0 - k ≤ g ∧ s45 = .int .i64 k ∧ Below w.heap.size w wr ∧ wr.heap.size = w.heap.size + 1 ∧ wr.there w.heap.size 0 (len0 * 7) ∧ ∀ j, j < k → wr.cell? ⟨w.heap.size, j * 7 + 5, none⟩ = some (.int .i64 (o j)))
    case atStart => exact ⟨0, Nat.zero_le _, by omega, rfl, (Below.refl _ _).alloc (Nat.le_refl _) _, by simp, there_made _ _ _ _, fun j hj => by omega⟩
    case round =>
      obtain ⟨k, hk, hg, rfl, hb, hsz, hth, hel⟩ := hrel
      by_cases hlt : k < len0
      · have i0 := ix0.out k hlt
        have ck : wr.cell? ⟨kb, ko + k, none⟩ = some (.int .i64 (o k)) := cell_below (c0.out k hlt) hb
        obtain ⟨v, cv⟩ := there_cell hth (k * 7 + 5) (by omega)
        have fv := there_frozen hth (k * 7 + 5) (by omega)
        have HB := hide hb
        have HT := hide hth
        have HE := hide hel
        have HS := hide hsz
        clear hb hth hel hsz
        go_wp2
        go_roundg (len0 - (k + 1))
        case measure => omega
        case rel =>
          refine ⟨k + 1, by omega, by omega, by go_num, HB.out.setCell (Nat.le_refl _) _, by rw [← HS.out]; simp [World.setCell], there_set HT.out _ _ _, fun j hj => ?_⟩
          by_cases hjk : j = k
          · subst hjk
            exact World.cell?_setCell_same _ _ _ cv
          · exact cell_set (HE.out j (by omega)) (by omega)
      · have : k = len0 := by omega
        subst this
        go_wp2
        go_meet
        case rel => exact ⟨hb, hsz, hel⟩
  case rest =>
    obtain ⟨B1, S1, E1⟩ := hcut
    have HB1 := hide B1
    have HE1 := hide E1
    have HS1 := hide S1
    clear B1 E1 S1 mk0
    go_upto_if 59 with fail
    go_cut [13, 10] (fun v v10 wc => v10 = .int .i64 (ti : Int) ∧ Below w.heap.size w wc ∧ (∀ j, j < len0 → wc.cell? ⟨w.heap.size, j * 7 + 5, none⟩ = some (.int .i64 (o j))) ∧ w.heap.size + 1 ≤ wc.heap.size ∧
      ∃ aw L cw, v = .slice aw L cw ∧ L ≤ 1048576 ∧ ((aw = none ∧ L = 0) ∨ aw = some ⟨w.heap.size + 1, 0, none⟩) ∧ (0 < L → 0 < len0 ∧ L ≤ len1) ∧ ∀ i, i < L → wc.rangeAt (w.heap.size + 1) (i * 3) (wc3 (it i) (Ow i) (Opn i)).toList)
    case first =>
      by_cases hp : 0 < len0
      · have mk1 := fun wx => run_make34 wx len1 (by omega)
        have hs1 := HS1.out
        have hd0 : ((len0 : Int) == 0) = false := by simp; omega
        have hd1 : ¬ (len0 : Int) = 0 := by omega
        have hd2 : ¬ len0 = 0 := by omega
        clear hnn
        go_wp2_with fail
        go_loopg [65] len1 (fun g s65 wr => ∃ k : Nat, k ≤ len1 ∧ len1 - k ≤ g ∧ s65 = .int .i64 k ∧ Below w.heap.size w wr ∧ (∀ j, j < len0 → wr.cell? ⟨w.heap.size, j * 7 + 5, none⟩ = some (.int .i64 (o j))) ∧ w.heap.size + 2 ≤ wr.heap.size ∧ wr.there (w.heap.size + 1) 0 (len1 * 3) ∧ ∀ i, i < k → wr.rangeAt (w.heap.size + 1) (i * 3) (wc3 (it i) (Ow i) (Opn i)).toList)
        case atStart =>
          refine ⟨0, Nat.zero_le _, by omega, rfl, HB1.out.alloc HB1.out.size _, fun j hj => Lib.cell?_alloc_some _ (HE1.out j hj), by simp; omega, ?_, fun i hi => by omega⟩
          rw [← hs1]
          exact there_made _ _ _ _
        case round =>
          obtain ⟨k, hk, hg, rfl, hb, hel, hsz, hth, hra⟩ := hrel
          by_cases hlt : k < len1
          · have i1 := ix1.out k hlt
            obtain ⟨hrk, im0, im1⟩ := c1.out k hlt
            obtain ⟨him, hil⟩ := hit.out k hlt hp
            have hwr : IntKind.u64.wrap (len0 : Int) = (len0 : Int) := by rw [wrap64u]; omega
            have htm : (Im k).tmod (len0 : Int) = (it k : Int) := by rw [Int.tmod_eq_emod_of_nonneg im0]; exact him
            have hwi : IntKind.i64.wrap (it k : Int) = (it k : Int) := by rw [IntKind.wrap_i64]; omega
            clear im1
            have hne1 : ¬ w.heap.size + 1 = wr.heap.size := by omega
            have hr := range_below hrk hb
            have f0 : wr.cell? ⟨bb, bo + k * 3, none⟩ = some (.int .u64 (Im k)) := hr 0 _ rfl
            have f1 : wr.cell? ⟨bb, bo + k * 3 + 1, none⟩ = some (.int .i64 (Ow k)) := hr 1 _ rfl
            have f2 : wr.cell? ⟨bb, bo + k * 3 + 2, none⟩ = some (.int .i64 (Opn k)) := hr 2 _ rfl
            obtain ⟨v0, g0⟩ := there_cell hth (k * 3) (by omega)
            obtain ⟨v1, g1⟩ := there_cell hth (k * 3 + 1) (by omega)
            obtain ⟨v2, g2⟩ := there_cell hth (k * 3 + 2) (by omega)
            have y0 := there_frozen hth (k * 3) (by omega)
            have y1 := there_frozen hth (k * 3 + 1) (by omega)
            have y2 := there_frozen hth (k * 3 + 2) (by omega)
            have g0a := Lib.cell?_alloc_some (.cells #[.int .u64 (Im k), .int .i64 (Ow k), .int .i64 (Opn k)] 32) g0
            have g1a := Lib.cell?_alloc_some (.cells #[.int .u64 (Im k), .int .i64 (Ow k), .int .i64 (Opn k)] 32) g1
            have g2a := Lib.cell?_alloc_some (.cells #[.int .u64 (Im k), .int .i64 (Ow k), .int .i64 (Opn k)] 32) g2
            have y0a : (wr.alloc (.cells #[.int .u64 (Im k), .int .i64 (Ow k), .int .i64 (Opn k)] 32)).frozen? ⟨w.heap.size + 1, k * 3, none⟩ = false := by rw [frozen?_alloc_cells]; exact y0
            have y1a : (wr.alloc (.cells #[.int .u64 (Im k), .int .i64 (Ow k), .int .i64 (Opn k)] 32)).frozen? ⟨w.heap.size + 1, k * 3 + 1, none⟩ = false := by rw [frozen?_alloc_cells]; exact y1
            have y2a : (wr.alloc (.cells #[.int .u64 (Im k), .int .i64 (Ow k), .int .i64 (Opn k)] 32)).frozen? ⟨w.heap.size + 1, k * 3 + 2, none⟩ = false := by rw [frozen?_alloc_cells]; exact y2
            have HB := hide hb
            have HEL := hide hel
            have HTH := hide hth
            have HRA := hide hra
            clear hb hel hth hra hrk hr g0 g1 g2 y0 y1 y2
            go_wp2_with fail
            go_region_held (fun w' => w'.cell? ⟨wr.heap.size, 0, none⟩ = some (.int .u64 (Im k)) ∧ w'.cell? ⟨wr.heap.size, 1, none⟩ = some (.int .i64 (Ow k)) ∧ w'.cell? ⟨wr.heap.size, 2, none⟩ = some (.int .i64 (Opn k))) (go_keep) (first | fail)
            go_wp2
            go_roundg (len1 - (k + 1))
            case measure => omega
            case rel =>
              have hb' : Below (w.heap.size + 1) wr (((((wr.alloc (.cells #[.int .u64 (Im k), .int .i64 (Ow k), .int .i64 (Opn k)] 32)).setCell ⟨w.heap.size + 1, k * 3, none⟩ (.int .i64 (it k : Int))).setCell ⟨w.heap.size + 1, k * 3 + 1, none⟩ (.int .i64 (Ow k))).setCell ⟨w.heap.size + 1, k * 3 + 2, none⟩ (.int .i64 (Opn k))).drew) :=
                (((((Below.refl _ wr).alloc (by omega) _).setCell (by exact Nat.le_refl _) _).setCell (by exact Nat.le_refl _) _).setCell (by exact Nat.le_refl _) _).drew
              have ht1 := World.there_alloc HTH.out (.cells #[.int .u64 (Im k), .int .i64 (Ow k), .int .i64 (Opn k)] 32)
              refine ⟨k + 1, by omega, by omega, by go_num, HB.out.trans (hb'.mono (by omega)), fun j hj => by rw [hb'.cell (by show w.heap.size < _; omega)]; exact HEL.out j hj, Nat.le_trans hsz hb'.size, there_set (there_set (there_set ht1 _ _ _) _ _ _) _ _ _, fun i hi => ?_⟩
              show ((wr.alloc (.cells #[.int .u64 (Im k), .int .i64 (Ow k), .int .i64 (Opn k)] 32)).setCells (w.heap.size + 1) (k * 3) [.int .i64 (it k : Int), .int .i64 (Ow k), .int .i64 (Opn k)]).rangeAt _ _ _
              by_cases hik : i = k
              · subst hik
                exact World.rangeAt_setCells_same _ _ _ _ (there_sub ht1 (by simp; omega))
              · exact World.rangeAt_setCells_apart (World.rangeAt_alloc (HRA.out i (by omega)) _) _ _ _ (.inr (.inl (by simp; omega)))
          · have : k = len1 := by omega
            subst this
            go_wp2
            go_meet
            case rel => exact ⟨by rw [HTI.out], hb, hel, by omega, _, _, _, rfl, by omega, .inr rfl, fun _ => ⟨hp, Nat.le_refl _⟩, hra⟩
      · go_wp2
        go_meet
        case rel => exact ⟨by rw [HTI.out], HB1.out, HE1.out, by have := HS1.out; omega, none, 0, 0, rfl, by omega, .inl ⟨rfl, rfl⟩, fun h => by omega, fun i hi => by omega⟩
    case rest =>
      obtain ⟨rfl, B2, E2, S2, aw, L, cw, rfl, hL, haw, hLl, R2⟩ := hcut
      have mk2 := fun wx => run_make37 wx nn (by omega)
      have HB2 := hide B2
      have HE2 := hide E2
      have HR2 := hide R2
      have HAW := hide haw
      have HLL := hide hLl
      have HS2 := hide S2
      clear B2 E2 R2 haw hLl HB1 HE1 HS1 hnn S2
      obtain ⟨tv, ct⟩ := there_cell (there_made wc z37 (nn * 4) 37) (ti * 4) (by omega)
      have ft := there_frozen (there_made wc z37 (nn * 4) 37) (ti * 4) (by omega)
      go_upto_block 4 with fail
      go_cut [] (fun w5 => ∃ T, T = wc.heap.size ∧ Below w.heap.size w w5 ∧ (∀ j, j < len0 → w5.cell? ⟨w.heap.size, j * 7 + 5, none⟩ = some (.int .i64 (o j))) ∧ (∀ i, i < L → w5.rangeAt (w.heap.size + 1) (i * 3) (wc3 (it i) (Ow i) (Opn i)).toList) ∧ w5.cell? ⟨T, ti * 4, none⟩ = some (.slice aw L cw))
      case first =>
        clear ct ft mk2
        go_wp2_with fail
        go_loopg [17] nn (fun g s17 wr => ∃ k : Nat, k ≤ nn ∧ nn - k ≤ g ∧ s17 = .int .i64 k ∧ Below wc.heap.size wc wr ∧ wc.heap.size < wr.heap.size ∧ wr.there wc.heap.size 0 (nn * 4) ∧ wr.cell? ⟨wc.heap.size, ti * 4, none⟩ = some (.slice aw L cw))
        case atStart =>
          have hst := top wc (.cells ((madeCells z37 (nn * 4)).setIfInBounds (ti * 4) (.slice aw L cw)) 37) _ rfl
          refine ⟨0, Nat.zero_le _, by omega, rfl, (Below.refl _ _).alloc (Nat.le_refl _) _, by simp, ?_, ?_⟩
          · have := there_of hst
            rwa [Array.size_setIfInBounds, size_madeCells] at this
          · have hlt : ti * 4 < (madeCells z37 (nn * 4)).size := by rw [size_madeCells]; omega
            exact cell_row hst (by simp [hlt])
        case round =>
          obtain ⟨k, hk, hg, rfl, hb, hsz, hth, hme⟩ := hrel
          by_cases hlt : k < nn
          · obtain ⟨v, cv⟩ := there_cell hth (k * 4) (by omega)
            have fv := there_frozen hth (k * 4) (by omega)
            by_cases hkt : k = ti
            · have hkb : ((k : Int) != (ti : Int)) = false := by simp; omega
              have HK := hide hkt
              have HB := hide hb
              have HT := hide hth
              have HM := hide hme
              clear hkt hb hth hme
              go_wp2
              go_roundg (nn - (k + 1))
              case measure => omega
              case rel => exact ⟨k + 1, by omega, by omega, by go_num, HB.out, hsz, HT.out, HM.out⟩
            · have hkb : ((k : Int) != (ti : Int)) = true := by simp; omega
              have HB := hide hb
              have HT := hide hth
              have HM := hide hme
              have HK := hide hkt
              by_cases hp : 0 < len0
              · have i0 : ∀ wx, Sem.run Yba.prog (Instr.indexAt 22 (.slice a0 len0 cap0) (.int .i64 0)) wx = .ok (.pointer (some ⟨kb, ko, none⟩)) wx := fun wx => by simpa using ix0.out 0 hp wx
                have ck : wr.cell? ⟨kb, ko, none⟩ = some (.int .i64 (o 0)) := by
                  have := cell_below (c0.out 0 hp) (HB2.out.trans (hb.mono HB2.out.size))
                  simpa using this
                have cva := Lib.cell?_alloc_some (.cells #[.int .i64 0, .int .i64 (wrap64 (o 0 + 1)), .int .i64 7] 34) cv
                have fva : (wr.alloc (.cells #[.int .i64 0, .int .i64 (wrap64 (o 0 + 1)), .int .i64 7] 34)).frozen? ⟨wc.heap.size, k * 4, none⟩ = false := by rw [frozen?_alloc_cells]; exact fv
                clear hkt hb hth hme cv fv
                go_wp2
                go_roundg (nn - (k + 1))
                case measure => omega
                case rel =>
                  refine ⟨k + 1, by omega, by omega, by go_num, ?_, ?_, ?_, ?_⟩
                  · exact (HB.out.setCell (by exact Nat.le_refl _) _).alloc (by simp [World.setCell]; omega) _
                  · simp [World.setCell]; omega
                  · exact World.there_alloc (there_set HT.out _ _ _) _
                  · exact Lib.cell?_alloc_some _ (cell_set HM.out (by have := HK.out; omega))
              · clear hkt hb hth hme
                go_wp2
                go_roundg (nn - (k + 1))
                case measure => omega
                case rel => exact ⟨k + 1, by omega, by omega, by go_num, HB.out, hsz, HT.out, HM.out⟩
          · have : k = nn := by omega
            subst this
            go_wp2
            go_meet
            case rel => exact ⟨_, rfl, HB2.out.trans (hb.mono HB2.out.size), fun j hj => cell_below (HE2.out j hj) hb, fun i hi => range_below (HR2.out i hi) hb, hme⟩
      case rest =>
        obtain ⟨T, hT, B5, E5, R5, M5⟩ := hcut
        rw [← hT]
        clear hT ct ft mk2 HB2 HE2 HR2 HS2
        have ixw : Hid (∀ i, i < L → ∀ wx, Sem.run Yba.prog (Instr.indexAt 29 (.slice aw L cw) (.int .i64 (i : Int))) wx = .ok (.pointer (some ⟨w.heap.size + 1, i * 3, none⟩)) wx) := by
          intro i hi wx
          rcases HAW.out with ⟨_, e⟩ | e
          · omega
          · rw [e]; exact ix29 _ _ _ _ hi wx
        have HC := hide (clone_all (w := wc) aw L cw (w.heap.size + 1) (fun i => (it i : Int)) Ow Opn HAW.out hL R5)
        have HB5 := hide B5
        have HE5 := hide E5
        have HR5 := hide R5
        have HM5 := hide M5
        clear B5 E5 R5 M5
        go_wp2_with fail
        refine HC.out.mono ?_
        rintro e w6 ⟨ac, cc, b2, rfl, hb6, ix2, r2⟩
        obtain ⟨m, hmL, hme, hmn⟩ := first_ne (fun i => o (it i) = Ow i) L
        obtain ⟨x, y, z, b, W, hx1, hx2⟩ : ∃ (x y z : Int) (b : Bool) (W : Int), (m < L → x = it m ∧ y = Ow m ∧ z = Opn m ∧ b = true ∧ W = m) ∧ (m = L → x = 0 ∧ y = 0 ∧ z = 0 ∧ b = false ∧ W = -1) := by
          by_cases h : m < L
          · exact ⟨_, _, _, _, _, fun _ => ⟨rfl, rfl, rfl, rfl, rfl⟩, fun e => by omega⟩
          · exact ⟨_, _, _, _, _, fun e => by omega, fun _ => ⟨rfl, rfl, rfl, rfl, rfl⟩⟩
        have HX1 := hide hx1
        have HX2 := hide hx2
        have HME := hide hme
        have HMN := hide hmn
        have HB6 := hide hb6
        have IX2 := hide ix2
        have R2 := hide r2
        clear hx1 hx2 hme hmn hb6 ix2 r2 HC
        have HITL : Hid (∀ i, i < L → it i < len0) := fun i hi => (hit.out i (by have := HLL.out (by omega); omega) (HLL.out (by omega)).1).2
        go_wp2_with fail
        have SV : ∀ C, C[1]? = some (.slice (some ⟨T, 0, none⟩) nn nn) → C[2]? = some (.slice (some ⟨w.heap.size, 0, none⟩) len0 len0) → Seen w6.heap.size T w.heap.size nn ti len0 L aw cw (w.heap.size + 1) o it Ow Opn (w6.alloc (.cells C 47)) := fun C h1 h2 =>
          ⟨cell_row (top _ _ _ rfl) h1, cell_row (top _ _ _ rfl) h2, Lib.cell?_alloc_some _ (cell_below HM5.out HB6.out), fun j hj => Lib.cell?_alloc_some _ (cell_below (HE5.out j hj) HB6.out), fun i hi => World.rangeAt_alloc (range_below (HR5.out i hi) HB6.out) _⟩
        refine (crowd7 w6.heap.size T w.heap.size nn ti len0 L aw cw (w.heap.size + 1) o it Ow Opn _ m (.agg (wc3 x y z)) b htin n4 hL (by omega) hmL HITL HME HMN ixw (fun h => by obtain ⟨rfl, rfl, rfl, rfl, _⟩ := HX1.out h; exact ⟨rfl, rfl⟩) (fun h => by obtain ⟨rfl, rfl, rfl, rfl, _⟩ := HX2.out h; exact ⟨rfl, rfl⟩) (SV _ rfl rfl)).mono ?_
        rintro e w7 ⟨rfl, hb7⟩
        have S7 := hide ((SV _ rfl rfl).later hb7)
        have HB7 : Hid (Below wc.heap.size wc w7) := HB6.out.trans (((Below.refl _ w6).alloc (Nat.le_refl _) _).trans (hb7.mono (by simp)) |>.mono HB6.out.size)
        have HR7 : Hid (∀ i, i < L → w7.rangeAt b2 (i * 3) (wc3 (it i) (Ow i) (Opn i)).toList) := fun i hi => range_below (World.rangeAt_alloc (R2.out i hi) _) hb7
        clear hb7 SV R2 HB6 HE5 HR5 HM5
        go_wp2_with fail
        go_loopg [22, 23] L (fun g s22 s23 wr => ∃ (k q : Nat) (wi : Int), k ≤ L ∧ k ≤ g ∧ s23 = .int .i64 ((k : Int) - 1) ∧ s22 = .int .i64 wi ∧ Hid (k ≤ m → wi = W) ∧ wr = (w7.alloc (.cells (wc3 x y z) 34)).drewN q)
        case atStart => exact ⟨L, 0, -1, Nat.le_refl _, Nat.le_refl _, by go_num, rfl, fun h => by have := HX2.out (by omega); exact this.2.2.2.2.symm, rfl⟩
        case round =>
          obtain ⟨k, q, wi, hk, hg, rfl, rfl, hwi, rfl⟩ := hrel
          by_cases hlt : 0 < k
          · obtain ⟨k', rfl⟩ : ∃ k', k = k' + 1 := ⟨k - 1, by omega⟩
            have hkk : ((k' + 1 : Nat) : Int) - 1 = (k' : Int) := by omega
            rw [hkk]
            have hkl : k' < L := by omega
            have j2 := IX2.out k' hkl
            have hi2 := HITL.out k' hkl
            have j0 := ix0.out _ hi2
            have d0 : (w7.alloc (.cells (wc3 x y z) 34)).cell? ⟨b2, k' * 3, none⟩ = some (.int .i64 (it k')) := Lib.cell?_alloc_some _ (HR7.out k' hkl 0 _ rfl)
            have d1 : (w7.alloc (.cells (wc3 x y z) 34)).cell? ⟨b2, k' * 3 + 1, none⟩ = some (.int .i64 (Ow k')) := Lib.cell?_alloc_some _ (HR7.out k' hkl 1 _ rfl)
            have d2 : (w7.alloc (.cells (wc3 x y z) 34)).cell? ⟨kb, ko + it k', none⟩ = some (.int .i64 (o (it k'))) := Lib.cell?_alloc_some _ (cell_below (cell_below (c0.out _ hi2) HB5.out) HB7.out)
            clear hkk
            by_cases hne : o (it k') = Ow k'
            · have hneb : (o (it k') != Ow k') = false := by simp [hne]
              have HNE := hide hne
              clear hne
              go_wp2_with fail
              go_quiet (fail)
              go_wp2
              go_roundg k'
              case measure => omega
              case rel =>
                refine ⟨k', _, wi, by omega, by omega, by go_num, rfl, fun h => hwi.out ?_, rfl⟩
                rcases Nat.lt_or_ge k' m with h' | h'
                · omega
                · have h2 : k' = m := by omega
                  subst h2
                  exact absurd HNE.out (HMN.out hkl)
            · have hneb : (o (it k') != Ow k') = true := by simp [hne]
              have HNE := hide hne
              clear hne
              go_wp2_with fail
              go_quiet (fail)
              go_wp2
              go_roundg k'
              case measure => omega
              case rel =>
                refine ⟨k', _, k', by omega, by omega, by go_num, rfl, fun h => ?_, rfl⟩
                have h1 : ¬ k' < m := fun h' => HNE.out (HME.out k' h')
                have h2 : k' = m := by omega
                subst h2
                exact (HX1.out hkl).2.2.2.2.symm
          · have hk0 : k = 0 := by omega
            subst hk0
            have hW : wi = W := hwi.out (by omega)
            subst hW
            go_upto_if 152 with fail
            go_cut [24, 22] (fun v24 v22 wd => v22 = .int .i64 wi ∧ v24 = .pointer (some ⟨w7.heap.size + 1, 0, none⟩) ∧ Below (w7.heap.size + 1) (w7.alloc (.cells (wc3 x y z) 34)) wd ∧ wd.cell? ⟨w7.heap.size + 1, 0, none⟩ = some (.int .i64 x) ∧ wd.cell? ⟨w7.heap.size + 1, 1, none⟩ = some (.int .i64 y) ∧ wd.cell? ⟨w7.heap.size + 1, 2, none⟩ = some (.int .i64 z))
            case first =>
              by_cases hm : m < L
              · obtain ⟨rfl, rfl, rfl, rfl, rfl⟩ := HX1.out hm
                have j2 := IX2.out m hm
                have d0 : w7.cell? ⟨b2, m * 3, none⟩ = some (.int .i64 (it m)) := HR7.out m hm 0 _ rfl
                have d1 : w7.cell? ⟨b2, m * 3 + 1, none⟩ = some (.int .i64 (Ow m)) := HR7.out m hm 1 _ rfl
                have d2 : w7.cell? ⟨b2, m * 3 + 2, none⟩ = some (.int .i64 (Opn m)) := HR7.out m hm 2 _ rfl
                have hlt2 := cell_lt d0
                simp only at hlt2
                have d0a := Lib.cell?_alloc_some (.cells (wc3 0 0 0) 34) (Lib.cell?_alloc_some (.cells (wc3 (it m) (Ow m) (Opn m)) 34) d0)
                have d1a := Lib.cell?_alloc_some (.cells (wc3 0 0 0) 34) (Lib.cell?_alloc_some (.cells (wc3 (it m) (Ow m) (Opn m)) 34) d1)
                have d2a := Lib.cell?_alloc_some (.cells (wc3 0 0 0) 34) (Lib.cell?_alloc_some (.cells (wc3 (it m) (Ow m) (Opn m)) 34) d2)
                go_wp2_with fail
                go_meet
                case rel => exact met_rel w7 _ _ _ q
              · obtain ⟨rfl, rfl, rfl, rfl, rfl⟩ := HX2.out (by omega)
                go_wp2
                go_meet
                case rel => exact met_rel w7 _ _ _ q
            case rest =>
              obtain ⟨rfl, rfl, B9, e0, e1, e2⟩ := hcut
              have hbw : b = decide (0 ≤ wi) := by
                by_cases hm : m < L
                · obtain ⟨_, _, _, rfl, rfl⟩ := HX1.out hm; simp
                · obtain ⟨_, _, _, rfl, rfl⟩ := HX2.out (by omega); simp
              subst hbw
              have B9' : Below w7.heap.size w7 wc := ((Below.refl _ w7).alloc (Nat.le_refl _) _).trans (B9.mono (by omega))
              have f0 : wc.cell? ⟨w7.heap.size, 0, none⟩ = some (.int .i64 x) := by rw [B9.cell (by exact Nat.lt_succ_self _)]; exact cell_row (top _ _ _ rfl) rfl
              have f1 : wc.cell? ⟨w7.heap.size, 1, none⟩ = some (.int .i64 y) := by rw [B9.cell (by exact Nat.lt_succ_self _)]; exact cell_row (top _ _ _ rfl) rfl
              have f2 : wc.cell? ⟨w7.heap.size, 2, none⟩ = some (.int .i64 z) := by rw [B9.cell (by exact Nat.lt_succ_self _)]; exact cell_row (top _ _ _ rfl) rfl
              have S9 := S7.out.later B9'
              have HB9 := hide B9'
              have HR9 : Hid (∀ i, i < L → wc.rangeAt b2 (i * 3) (wc3 (it i) (Ow i) (Opn i)).toList) := fun i hi => range_below (HR7.out i hi) B9'
              have t1 := S9.trans
              have t2 := S9.items
              have t3 := S9.mine
              have SS := hide S9
              have HQ := neq34 x y z
              clear B9 B9' S9 S7 HR7
              go_wp2_with fail
              refine (equal8 aw ac L cw cc (w.heap.size + 1) b2 (fun i => (it i : Int)) Ow Opn wc hL ixw IX2 SS.out.rows HR9.out).mono ?_
              rintro e w10 ⟨rfl, q2, rfl⟩
              clear HQ
              go_wp2_with fail
              go_loopg [187] len0 (fun g s187 wr => ∃ k q : Nat, k ≤ len0 ∧ len0 - k ≤ g ∧ s187 = .int .i64 k ∧ wr = wc.drewN q)
              case atStart => exact ⟨0, q2, Nat.zero_le _, by omega, rfl, rfl⟩
              case round =>
                obtain ⟨k, q3, hk, hg, rfl, rfl⟩ := hrel
                by_cases hlt : k < len0
                · have j0 := ix0.out k hlt
                  have d0 : wc.cell? ⟨kb, ko + k, none⟩ = some (.int .i64 (o k)) := cell_below (cell_below (cell_below (c0.out _ hlt) HB5.out) HB7.out) HB9.out
                  have d1 : wc.cell? ⟨w.heap.size, k * 7 + 5, none⟩ = some (.int .i64 (o k)) := SS.out.open_ k hlt
                  go_wp2_with fail
                  go_quiet (fail)
                  go_wp2
                  go_roundg (len0 - (k + 1))
                  case measure => omega
                  case rel => exact ⟨k + 1, _, by omega, by omega, by go_num, rfl⟩
                · have : k = len0 := by omega
                  subst this
                  go_wp2
                  go_ret
                  refine ⟨rfl, HB5.out.trans ((HB7.out.trans ((HB9.out.trans ?_).mono HB7.out.size)).mono HB5.out.size)⟩
                  exact ⟨rfl, rfl, rfl, Nat.le_refl _, fun _ _ => rfl⟩
end Go.Proofs.Ybulkeepk

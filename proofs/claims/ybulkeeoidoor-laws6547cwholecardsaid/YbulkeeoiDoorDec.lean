import Derived.Test.YbulkeeoiDoorText
import Derived.Deep.MidRow
namespace Go.Proofs.YbulkeeoiDoor
open Go.RowKit Go.Sort
set_option linter.unusedVariables false

theorem top (w : World) (o : Obj) (k : Nat) (h : k = w.heap.size) : (w.alloc o).heap[k]? = some o := by subst h; show (w.heap.push _)[w.heap.size]? = _; simp
theorem there_of {w : World} {b : Nat} {C : Array Value} {t : TypeId} (hb : w.heap[b]? = some (.cells C t (0, 0))) : w.there b 0 C.size := by
  intro j hj
  rw [Nat.zero_add]
  exact ⟨by simp [World.cell?, hb, hj], by simp [World.frozen?, hb]⟩
theorem there_cell {w : World} {b n : Nat} (h : w.there b 0 n) (i : Nat) (hi : i < n) : ∃ v, w.cell? ⟨b, i, none⟩ = some v := by
  have := (h i hi).1
  rw [Nat.zero_add] at this
  exact Option.isSome_iff_exists.1 this
theorem there_frozen {w : World} {b n : Nat} (h : w.there b 0 n) (i : Nat) (hi : i < n) : w.frozen? ⟨b, i, none⟩ = false := by
  have := (h i hi).2
  rwa [Nat.zero_add] at this
theorem there_set {w : World} {b n : Nat} (h : w.there b 0 n) (b' i : Nat) (v : Value) : (w.setCell ⟨b', i, none⟩ v).there b 0 n := World.there_setCells h b' i [v]
theorem cell_set {w : World} {b i b' i' : Nat} {v u : Value} (h : w.cell? ⟨b, i, none⟩ = some v) (hne : ¬ (b = b' ∧ i = i')) : (w.setCell ⟨b', i', none⟩ u).cell? ⟨b, i, none⟩ = some v := by
  rw [World.cell?_setCell_other _ _ _ _ (fun e => hne (by injection e with e1 e2; exact ⟨e1.symm, e2.symm⟩))]
  exact h

abbrev ub (b : UInt8) : Value := .int .u8 (b.toNat : Int)

theorem digit_byte (v : Nat) : ((48 + v % 10 : Nat) : Int) = ((UInt8.ofNat (48 + v % 10)).toNat : Int) := by
  rw [UInt8.toNat_ofNat']
  omega

theorem nd_of {u j : Nat} (hj : 1 ≤ j) (h0 : u / 10 ^ j = 0) (h1 : u / 10 ^ (j - 1) ≠ 0) : Lib.nDigits u = j := by
  have p1 : 0 < 10 ^ (j - 1) := Nat.pos_of_ne_zero (by simp)
  have a1 : 10 ^ (j - 1) ≤ u := by
    rcases Nat.lt_or_ge u (10 ^ (j - 1)) with h | h
    · exact absurd (Nat.div_eq_of_lt h) h1
    · exact h
  have p2 : 0 < 10 ^ j := Nat.pos_of_ne_zero (by simp)
  have a2 : u < 10 ^ j := (Nat.div_eq_zero_iff_lt p2).1 h0
  have := Lib.nDigits_unique (j - 1) u a1 (by rw [show j - 1 + 1 = j by omega]; exact a2)
  omega

set_option maxHeartbeats 2000000 in
set_option maxRecDepth 100000 in
theorem dec9 (u : Nat) (hu : u < 18446744073709551616) (w : World) :
    Calls Ybad.prog 9 #[.int .u64 (u : Int)] w fun e w' => e = .returned (.string (num u)) ∧ Below w.heap.size w w' := by
  by_cases hz : u = 0
  · subst hz
    go_enter Ybad.func9, Ybad.ntmps9
    go_wp2
    go_ret
    exact ⟨by rw [show num 0 = { data := #[48] } by decide +kernel]; rfl, Below.refl _ _⟩
  · have hp : decide ((u : Int) = 0) = false := by simp; omega
    have hal : Ybad.prog.arrayLen 109 = 20 := by simp [Program.arrayLen, Ybad.underlying109]
    go_enter Ybad.func9, Ybad.ntmps9
    go_wp2_with fail
    go_loopg [0, 4] 20 (fun g s0 s4 wr => ∃ j : Nat, j ≤ 20 ∧ 20 - j ≤ g ∧ s0 = .int .u64 ((u / 10 ^ j : Nat) : Int) ∧ s4 = .int .i64 (20 - (j : Int)) ∧ Below w.heap.size w wr ∧ wr.there w.heap.size 0 20 ∧ (1 ≤ j → u / 10 ^ (j - 1) ≠ 0) ∧ ∀ t, t < j → wr.cell? ⟨w.heap.size, 19 - t, none⟩ = some (ub (Lib.dg u t)))
    case atStart =>
      refine ⟨0, by omega, by omega, by simp, rfl, (Below.refl _ _).alloc (Nat.le_refl _) _, ?_, fun h => by omega, fun t ht => by omega⟩
      exact there_of (top w _ _ rfl)
    case round =>
      obtain ⟨j, hj, hg, rfl, rfl, hb, hth, hne, hcs⟩ := hrel
      by_cases h0 : u / 10 ^ j = 0
      · have HB := hide hb
        have HT := hide hth
        have HC := hide hcs
        have HN := hide hne
        have h1 : 1 ≤ j := by
          rcases Nat.eq_zero_or_pos j with h | h
          · subst h; simp at h0; omega
          · exact h
        have hnd := nd_of h1 h0 (HN.out h1)
        clear hb hth hcs hne
        have hsl : ∀ W, (Instr.sliceAt 109 (.pointer (some ⟨w.heap.size, 0, none⟩)) (some (.int .i64 (20 - (j : Int)))) none none).run Ybad.prog W = .ok (.slice (some ⟨w.heap.size, 20 - j, none⟩) j j) W := fun W => by
          rw [run_sliceAt_array_l W 109 ⟨w.heap.size, 0, none⟩ (by simp [Program.arrayLen, Program.elem, Ybad.underlying109]) .i64 (20 - (j : Int)) (by omega) (by rw [hal]; omega)]
          have ez : Ybad.prog.elem 109 = 5 := by simp [Program.elem, Ybad.underlying109]
          rw [hal, ez, show (20 - (j : Int)).toNat = 20 - j by omega]
          go_simp
          omega
        have hcv : (convert 24 9 (.slice (some ⟨w.heap.size, 20 - j, none⟩) j j)).run Ybad.prog wr = .ok (.string (num u)) wr := by
          have h := run_convert_bytes_back (P := Ybad.prog) wr 24 9 5 ⟨w.heap.size, 20 - j, none⟩ j (Lib.decDigits u) Ybad.underlying24 Ybad.underlying5 Ybad.underlying9 (fun t ht => by
            rw [Lib.decDigits_length, hnd] at ht
            have e := HC.out (j - 1 - t) (by omega)
            rw [Lib.add_plain, show 20 - j + t = 19 - (j - 1 - t) by omega, e]
            simp only [Lib.decDigits_eq u, List.getElem_map, List.getElem_range, hnd])
          rw [Lib.decDigits_length, hnd] at h
          exact h
        have hq : ((u / 10 ^ j : Nat) : Int) = 0 := by rw [h0]; rfl
        clear hal hnd h0
        go_wp2
        go_ret
        exact ⟨rfl, HB.out⟩
      · have hlt : j < 20 := by
          rcases Nat.lt_or_ge j 20 with h | h
          · exact h
          · exfalso
            have : j = 20 := by omega
            subst this
            exact h0 (Nat.div_eq_of_lt (Nat.lt_trans hu (by decide)))
        generalize hv : u / 10 ^ j = v at *
        have hvb : v < 18446744073709551616 := by rw [← hv]; exact Nat.lt_of_le_of_lt (Nat.div_le_self _ _) hu
        have HV := hide hv
        have HB := hide hb
        have HT := hide hth
        have HC := hide hcs
        have HN := hide hne
        clear hv hb hth hcs hne hal hp hz
        obtain ⟨v0, c0⟩ := there_cell HT.out (20 - j - 1) (by omega)
        have f0 := there_frozen HT.out (20 - j - 1) (by omega)
        have hd : decide ((0 : Int) < (v : Int)) = true := by simp; omega
        go_wp2
        go_roundg (20 - (j + 1))
        case measure => omega
        case rel =>
          have e1 : u / 10 ^ (j + 1) = v / 10 := by rw [Nat.pow_succ, ← Nat.div_div_eq_div_mul, HV.out]
          refine ⟨j + 1, by omega, by omega, by rw [e1]; rfl, by congr 1; omega, HB.out.setCell (Nat.le_refl _) _, there_set HT.out _ _ _, fun _ => by rw [Nat.add_sub_cancel, HV.out]; omega, fun t ht => ?_⟩
          by_cases htj : t = j
          · subst htj
            rw [show 19 - t = 20 - t - 1 by omega, World.cell?_setCell_same _ _ _ c0]
            congr 2
            rw [Lib.dg, HV.out]
            have := digit_byte v
            omega
          · exact cell_set (HC.out t (by omega)) (by omega)
end Go.Proofs.YbulkeeoiDoor

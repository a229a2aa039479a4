import Derived.Test.YbulkeeoiDoorTime
import Derived.Deep.RegionHeld
import Derived.Laws.Externs
namespace Go.Proofs.YbulkeeoiDoor
open Go.RowKit
set_option linter.unusedVariables false

theorem ns4 (x : Int) (w : World) (hx : -9223372036854775808 ≤ x ∧ x ≤ 9223372036854775807) :
    Calls Ybad.prog 4 #[.int .i64 x] w fun e w' => e = .returned (.int .i64 (x.tmod 1125899906842624)) ∧ w' = w := by
  obtain ⟨h1, h2⟩ := hx
  go_enter Ybad.func4, Ybad.ntmps4
  go_wp2
  go_ret
  exact ⟨rfl, rfl⟩

theorem tdm (d : Int) (h1 : -4503599627370496 ≤ d) (h2 : d ≤ 4503599627370496) : d = 1000000000 * d.tdiv 1000000000 + d.tmod 1000000000 ∧ -1000000000 < d.tmod 1000000000 ∧ d.tmod 1000000000 < 1000000000 ∧ -5000000 ≤ d.tdiv 1000000000 ∧ d.tdiv 1000000000 ≤ 5000000 := by
  have hdm : d = 1000000000 * d.tdiv 1000000000 + d.tmod 1000000000 := (Int.mul_tdiv_add_tmod d 1000000000).symm
  have hm1 : (d.tmod 1000000000).natAbs < 1000000000 := by
    rw [Int.natAbs_tmod]; exact Nat.mod_lt _ (by decide)
  generalize d.tdiv 1000000000 = s at *
  generalize d.tmod 1000000000 = n at *
  omega

set_option maxHeartbeats 1000000 in
set_option maxRecDepth 100000 in
theorem add5x (s : Int) (n : Nat) (d s' : Int) (n' : Nat) (w : World) (hn : n < 1000000000) (hn' : n' < 1000000000) (hs : -100000000000 ≤ s ∧ s ≤ 100000000000) (hd : -4503599627370496 ≤ d ∧ d ≤ 4503599627370496)
    (he : s' * 1000000000 + (n' : Int) = s * 1000000000 + (n : Int) + d) :
    Calls Ybad.prog 5 #[.agg (tc s n), .int .i64 d] w fun e w' => e = .returned (.agg (tc s' n')) ∧ w' = (w.alloc (.cells (tc s' n') 33)).alloc (.cells (tc s' n') 33) := by
  obtain ⟨hs1, hs2⟩ := hs
  obtain ⟨hd1, hd2⟩ := hd
  obtain ⟨g1, g2, g3, g4, g5⟩ := tdm d hd1 hd2
  have HE := hide he
  have HG := hide g1
  clear he g1
  have m1 := and_top n' (by omega)
  have m2 := andNot_mask n (by omega)
  have m3 := or_zero n' (by omega)
  by_cases c1 : 1000000000 ≤ (n : Int) + d.tmod 1000000000
  · have k1 : decide (1000000000 ≤ (n : Int) + d.tmod 1000000000) = true := by simpa using c1
    have e1 : (n : Int) + d.tmod 1000000000 - 1000000000 = (n' : Int) := by have := HE.out; have := HG.out; omega
    have e2 : s + (d.tdiv 1000000000 + 1) = s' := by have := HE.out; have := HG.out; omega
    go_enter Ybad.func5, Ybad.ntmps5
    go_wp2_with (first
      | (go_at_call 13; refine (nsec13 _ _ n _ hn (by go_simp)).mono ?_; rintro e w' ⟨rfl, rfl⟩)
      | (go_at_call 14; refine (addSec14 _ _ n' s _ _ hn' ⟨by omega, by omega⟩ ⟨by omega, by omega⟩ (by go_simp) (by go_simp) (by go_simp)).mono ?_; rintro e w' ⟨rfl, rfl⟩))
    exact bodyPost_ret (v := .agg (tc s' n')) (by simp [results, Ybad.results5, go_sem]) rfl ⟨rfl, rfl⟩
  · have k1 : decide (1000000000 ≤ (n : Int) + d.tmod 1000000000) = false := by simpa using c1
    by_cases c2 : (n : Int) + d.tmod 1000000000 < 0
    · have k2 : decide ((n : Int) + d.tmod 1000000000 < 0) = true := by simpa using c2
      have e1 : (n : Int) + d.tmod 1000000000 + 1000000000 = (n' : Int) := by have := HE.out; have := HG.out; omega
      have e2 : s + (d.tdiv 1000000000 - 1) = s' := by have := HE.out; have := HG.out; omega
      go_enter Ybad.func5, Ybad.ntmps5
      go_wp2_with (first
        | (go_at_call 13; refine (nsec13 _ _ n _ hn (by go_simp)).mono ?_; rintro e w' ⟨rfl, rfl⟩)
        | (go_at_call 14; refine (addSec14 _ _ n' s _ _ hn' ⟨by omega, by omega⟩ ⟨by omega, by omega⟩ (by go_simp) (by go_simp) (by go_simp)).mono ?_; rintro e w' ⟨rfl, rfl⟩))
      exact bodyPost_ret (v := .agg (tc s' n')) (by simp [results, Ybad.results5, go_sem]) rfl ⟨rfl, rfl⟩
    · have k2 : decide ((n : Int) + d.tmod 1000000000 < 0) = false := by simpa using c2
      have e1 : (n : Int) + d.tmod 1000000000 = (n' : Int) := by have := HE.out; have := HG.out; omega
      have e2 : s + d.tdiv 1000000000 = s' := by have := HE.out; have := HG.out; omega
      have hn'' : (n' : Int) < 1000000000 := by omega
      have k1' : decide (1000000000 ≤ (n' : Int)) = false := by simp; omega
      have k2' : decide ((n' : Int) < 0) = false := by simp
      go_enter Ybad.func5, Ybad.ntmps5
      go_wp2_with (first
        | (go_at_call 13; refine (nsec13 _ _ n _ hn (by go_simp)).mono ?_; rintro e w' ⟨rfl, rfl⟩)
        | (go_at_call 14; refine (addSec14 _ _ n' s _ _ hn' ⟨by omega, by omega⟩ ⟨by omega, by omega⟩ (by go_simp) (by go_simp) (by go_simp)).mono ?_; rintro e w' ⟨rfl, rfl⟩))
      exact bodyPost_ret (v := .agg (tc s' n')) (by simp [results, Ybad.results5, go_sem]) rfl ⟨rfl, rfl⟩

theorem add5 (s : Int) (n : Nat) (d s' : Int) (n' : Nat) (w : World) (hn : n < 1000000000) (hn' : n' < 1000000000) (hs : -100000000000 ≤ s ∧ s ≤ 100000000000) (hd : -4503599627370496 ≤ d ∧ d ≤ 4503599627370496)
    (he : s' * 1000000000 + (n' : Int) = s * 1000000000 + (n : Int) + d) :
    Calls Ybad.prog 5 #[.agg (tc s n), .int .i64 d] w fun e w' => e = .returned (.agg (tc s' n')) ∧ Below w.heap.size w w' := by
  refine (add5x s n d s' n' w hn hn' hs hd he).mono ?_
  rintro e w' ⟨rfl, rfl⟩
  exact ⟨rfl, ((Below.refl _ w).alloc (Nat.le_refl _) _).alloc (by simp) _⟩

set_option maxHeartbeats 1000000 in
set_option maxRecDepth 100000 in
theorem equal17 (s : Int) (n : Nat) (w : World) (hn : n < 1000000000) :
    Calls Ybad.prog 17 #[.agg (tc s n), .agg (tc s n)] w fun e w' => e = .returned (.bool true) ∧ Below w.heap.size w w' := by
  have m1 := and_two n n (by omega) (by omega)
  go_enter Ybad.func17, Ybad.ntmps17
  go_wp2_with (first
    | (go_at_call 13; refine (nsec13 _ _ n _ hn (by go_simp)).mono ?_; rintro e w' ⟨rfl, rfl⟩)
    | (go_at_call 18; refine (sec18 _ _ n s _ hn (by go_simp) (by go_simp)).mono ?_; rintro e w' ⟨rfl, rfl⟩))
  go_ret
  exact ⟨rfl, ((Below.refl _ w).alloc (Nat.le_refl _) _).alloc (by simp) _⟩
end Go.Proofs.YbulkeeoiDoor

import Derived.Test.YbulkeeoiDoorRows
import Derived.Test.YbulkeeoiDoorFloat
import Derived.WalkKit
import Derived.WalkSpells
import Derived.WalkLawsBesides
import Derived.Below
import Derived.Lib.SliceRun
import Derived.Deep.LoopGhost
import Derived.BigQuiet
import Derived.Deep.QuietTactic
import Derived.Deep.RegionWith
namespace Go.Proofs.YbulkeeoiDoor
open Go.RowKit
set_option linter.unusedVariables false

theorem hide {p : Prop} (h : p) : Hid p := h


theorem bits_nat (n : Nat) (h : n < 18446744073709551616) : (BitVec.ofInt 64 (n : Int)).toNat = n := by
  simp only [BitVec.toNat_ofInt]
  omega
theorem wrap_toNat (r : BitVec 64) : IntKind.u64.wrap (r.toNat : Int) = (r.toNat : Int) := by
  rw [IntKind.wrap_u64]
  have := r.isLt
  omega
theorem and_nat (n m : Nat) (hn : n < 18446744073709551616) (hm : m < 18446744073709551616) : bits .and .u64 (n : Int) (m : Int) = ((n &&& m : Nat) : Int) := by
  show IntKind.u64.wrap (((BitVec.ofInt 64 (n : Int)) &&& (BitVec.ofInt 64 (m : Int))).toNat : Int) = _
  rw [wrap_toNat, BitVec.toNat_and, bits_nat n hn, bits_nat m hm]
theorem or_nat (n m : Nat) (hn : n < 18446744073709551616) (hm : m < 18446744073709551616) : bits .or .u64 (n : Int) (m : Int) = ((n ||| m : Nat) : Int) := by
  show IntKind.u64.wrap (((BitVec.ofInt 64 (n : Int)) ||| (BitVec.ofInt 64 (m : Int))).toNat : Int) = _
  rw [wrap_toNat, BitVec.toNat_or, bits_nat n hn, bits_nat m hm]
theorem and_mask (n : Nat) (h : n < 1073741824) : bits .and .u64 (n : Int) 1073741823 = (n : Int) := by
  have := and_nat n 1073741823 (by omega) (by omega)
  rw [show n &&& 1073741823 = n by
    rw [show (1073741823 : Nat) = 2 ^ 30 - 1 by decide, Nat.and_two_pow_sub_one_eq_mod]
    exact Nat.mod_eq_of_lt (by omega)] at this
  exact this
theorem top_nat (n : Nat) (h : n < 1073741824) : n &&& 9223372036854775808 = 0 := by
  apply Nat.eq_of_testBit_eq
  intro i
  rw [Nat.testBit_and, show (9223372036854775808 : Nat) = 2 ^ 63 by decide, Nat.testBit_two_pow]
  by_cases hi : 63 = i
  · subst hi
    rw [Nat.testBit_lt_two_pow (Nat.lt_of_lt_of_le h (by decide))]
    simp
  · simp [hi]
theorem and_top (n : Nat) (h : n < 1073741824) : bits .and .u64 (n : Int) 9223372036854775808 = 0 := by
  have := and_nat n 9223372036854775808 (by omega) (by omega)
  rw [top_nat n h] at this
  exact this
theorem and_two (n m : Nat) (h : n < 1073741824) (hm : m < 1073741824) : bits .and .u64 (bits .and .u64 (n : Int) (m : Int)) 9223372036854775808 = 0 := by
  rw [and_nat n m (by omega) (by omega)]
  exact and_top _ (Nat.lt_of_le_of_lt Nat.and_le_left h)
theorem andNot_mask (n : Nat) (h : n < 1073741824) : bits .andNot .u64 (n : Int) 1073741823 = 0 := by
  show IntKind.u64.wrap (((BitVec.ofInt 64 (n : Int)) &&& ~~~ (BitVec.ofInt 64 (1073741823 : Int))).toNat : Int) = _
  have : ((BitVec.ofInt 64 (n : Int)) &&& ~~~ (BitVec.ofInt 64 (1073741823 : Int))) = 0#64 := by
    apply BitVec.eq_of_getLsbD_eq
    intro i hi
    rw [BitVec.getLsbD_and, BitVec.getLsbD_not]
    by_cases h30 : i < 30
    · have h1 : (BitVec.ofInt 64 (1073741823 : Int)).getLsbD i = true := by
        have e : BitVec.ofInt 64 (1073741823 : Int) = BitVec.ofNat 64 (2 ^ 30 - 1) := by decide
        rw [e, BitVec.getLsbD_ofNat, Nat.testBit_two_pow_sub_one]
        simp [hi, h30]
      rw [h1, BitVec.getLsbD_zero]
      simp
    · have h1 : (BitVec.ofInt 64 (n : Int)).getLsbD i = false := by
        rw [BitVec.getLsbD, bits_nat n (by omega)]
        exact Nat.testBit_lt_two_pow (Nat.lt_of_lt_of_le h (by
          rw [show (1073741824 : Nat) = 2 ^ 30 by decide]
          exact Nat.pow_le_pow_right (by omega) (by omega)))
      rw [h1, BitVec.getLsbD_zero]
      simp
  rw [this]
  rfl
theorem or_zero (n : Nat) (h : n < 1073741824) : bits .or .u64 0 (n : Int) = (n : Int) := by
  have := or_nat 0 n (by omega) (by omega)
  rw [Nat.zero_or] at this
  exact this

/-- The cells of a time: s seconds and n nanoseconds behind the zero time. -/
abbrev tc (s : Int) (n : Nat) : Array Value := #[.int .u64 (n : Int), .int .i64 s, .pointer none]

set_option maxHeartbeats 1000000 in
theorem nsec13 (b o : Nat) (n : Nat) (w : World) (hn : n < 1000000000) (h0 : w.cell? ⟨b, o, none⟩ = some (.int .u64 (n : Int))) :
    Calls Ybad.prog 13 #[.pointer (some ⟨b, o, none⟩)] w fun e w' => e = .returned (.int .i32 (n : Int)) ∧ w' = w := by
  have hm := and_mask n (by omega)
  go_enter Ybad.func13, Ybad.ntmps13
  go_wp2
  go_ret
  exact ⟨rfl, rfl⟩

set_option maxHeartbeats 1000000 in
theorem sec18 (b o : Nat) (n : Nat) (s : Int) (w : World) (hn : n < 1000000000) (h0 : w.cell? ⟨b, o, none⟩ = some (.int .u64 (n : Int))) (h1 : w.cell? ⟨b, o + 1, none⟩ = some (.int .i64 s)) :
    Calls Ybad.prog 18 #[.pointer (some ⟨b, o, none⟩)] w fun e w' => e = .returned (.int .i64 s) ∧ w' = w := by
  have hm := and_top n (by omega)
  go_enter Ybad.func18, Ybad.ntmps18
  go_wp2
  go_ret
  exact ⟨rfl, rfl⟩

set_option maxHeartbeats 1000000 in
theorem addSec14 (b o : Nat) (n : Nat) (s d : Int) (w : World) (hn : n < 1000000000) (hs : -1000000000000 ≤ s ∧ s ≤ 1000000000000) (hd : -1000000000000 ≤ d ∧ d ≤ 1000000000000) (h0 : w.cell? ⟨b, o, none⟩ = some (.int .u64 (n : Int))) (h1 : w.cell? ⟨b, o + 1, none⟩ = some (.int .i64 s)) (f1 : w.frozen? ⟨b, o + 1, none⟩ = false) :
    Calls Ybad.prog 14 #[.pointer (some ⟨b, o, none⟩), .int .i64 d] w fun e w' => e = .returned (.tuple #[]) ∧ w' = w.setCell ⟨b, o + 1, none⟩ (.int .i64 (s + d)) := by
  have hm := and_top n (by omega)
  obtain ⟨hs1, hs2⟩ := hs
  obtain ⟨hd1, hd2⟩ := hd
  by_cases hp : 0 < d
  · have c1 : decide (s < s + d) = true := by simp; omega
    have c2 : decide (0 < d) = true := by simp; omega
    go_enter Ybad.func14, Ybad.ntmps14
    go_wp2
    go_end0
    exact ⟨rfl, rfl⟩
  · have c1 : decide (s < s + d) = false := by simp; omega
    have c2 : decide (0 < d) = false := by simp; omega
    go_enter Ybad.func14, Ybad.ntmps14
    go_wp2
    go_end0
    exact ⟨rfl, rfl⟩
end Go.Proofs.YbulkeeoiDoor

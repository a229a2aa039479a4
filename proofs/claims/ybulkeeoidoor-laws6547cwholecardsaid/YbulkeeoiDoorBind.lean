import Derived.Test.YbulkeeoiDoorDec
import Derived.Test.YbulkeeoiDoorTime3
import Derived.Laws.EntriesVeiled
namespace Go.Proofs.YbulkeeoiDoor
open Go.RowKit Go.Sort
set_option linter.unusedVariables false

/-- Nanoseconds as the law reduces them. -/
def red (x : Int) : Int := x.tmod 1125899906842624
theorem red_bound (x : Int) : -1125899906842624 < red x ∧ red x < 1125899906842624 := by
  have h : (red x).natAbs < 1125899906842624 := by
    unfold red
    rw [Int.natAbs_tmod]; exact Nat.mod_lt _ (by decide)
  omega
def tS (X : Int) : Int := X / 1000000000
def tN (X : Int) : Nat := (X % 1000000000).toNat
theorem tN_lt (X : Int) : tN X < 1000000000 := by unfold tN; omega
theorem tSN (X : Int) : tS X * 1000000000 + (tN X : Int) = X := by unfold tS tN; omega
theorem tS_bound {X : Int} (h : -1125899906842624 < X ∧ X < 1125899906842624) : -100000000 ≤ tS X ∧ tS X ≤ 100000000 := by unfold tS; omega

/-- The cells of the law's own record of a binding. -/
abbrev rb (id ev : Int) (uri : ByteArray) (ex : Int) : Array Value := #[.int .u64 id, .int .i8 ev, .string uri, .int .i64 ex]
/-- The cells of a binding as the law makes it. -/
abbrev bc (id ev : Int) (uri : ByteArray) (s : Int) (n : Nat) : Array Value :=
  #[.string { data := #[] }, .string uri, .slice none 0 0, .string { data := #[] }, .string { data := #[] }, .int .u32 0, .int .u64 (n : Int), .int .i64 s, .pointer none, .string { data := #[] }, .int .u32 0, .string { data := #[] }, .slice none 0 0, .int .u64 id, .int .i64 ev]
/-- The cells of a contact. -/
abbrev cc (t : ByteArray) (st ev ex : Int) (uri : ByteArray) : Array Value := #[.string t, .int .i64 st, .int .i64 ev, .int .i64 ex, .string uri]

set_option maxHeartbeats 1000000 in
set_option maxRecDepth 100000 in
theorem mk7 (id ev : Int) (uri : ByteArray) (ex : Int) (w : World) (hev : -128 ≤ ev ∧ ev ≤ 127) (hex : -9223372036854775808 ≤ ex ∧ ex ≤ 9223372036854775807) :
    Calls Ybad.prog 7 #[.agg (rb id ev uri ex)] w fun e w' => e = .returned (.agg (bc id ev uri (tS (red ex)) (tN (red ex)))) ∧ Below w.heap.size w w' := by
  obtain ⟨h1, h2⟩ := hev
  have K4 : Hid (∀ wx, Calls Ybad.prog 4 #[.int .i64 ex] wx fun e w' => e = .returned (.int .i64 (red ex)) ∧ w' = wx) := fun wx => ns4 ex wx hex
  have hr := red_bound ex
  have K5 : Hid (∀ wx, Calls Ybad.prog 5 #[.agg #[.int .u64 0, .int .i64 0, .pointer none], .int .i64 (red ex)] wx fun e w' => e = .returned (.agg (tc (tS (red ex)) (tN (red ex)))) ∧ w' = (wx.alloc (.cells (tc (tS (red ex)) (tN (red ex))) 33)).alloc (.cells (tc (tS (red ex)) (tN (red ex))) 33)) := fun wx => add5x 0 0 (red ex) _ _ wx (by omega) (tN_lt _) ⟨by omega, by omega⟩ ⟨by omega, by omega⟩ (by have := tSN (red ex); omega)
  go_enter Ybad.func7, Ybad.ntmps7
  go_wp2_with (first | (go_at_call 4; refine (K4.out _).mono ?_; rintro e w' ⟨rfl, rfl⟩) | (go_at_call 5; refine (K5.out _).mono ?_; rintro e w' ⟨rfl, rfl⟩))
  exact bodyPost_ret (v := .agg (bc id ev uri (tS (red ex)) (tN (red ex)))) (by simp [results, Ybad.results7, go_sem]) rfl ⟨rfl, (((((Below.refl _ w).alloc (Nat.le_refl _) _).alloc (by simp) _).alloc (by simp; omega) _).alloc (by simp; omega) _).alloc (by simp; omega) _⟩
end Go.Proofs.YbulkeeoiDoor

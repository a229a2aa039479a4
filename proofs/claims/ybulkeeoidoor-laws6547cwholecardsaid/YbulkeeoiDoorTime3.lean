import Derived.Test.YbulkeeoiDoorTime2
namespace Go.Proofs.YbulkeeoiDoor
open Go.RowKit
set_option linter.unusedVariables false

set_option maxHeartbeats 1000000 in
set_option maxRecDepth 100000 in
theorem sub29 (s : Int) (n : Nat) (s' : Int) (n' : Nat) (D : Int) (w : World) (hn : n < 1000000000) (hn' : n' < 1000000000) (hs : -100000000 ≤ s ∧ s ≤ 100000000) (hs' : -100000000 ≤ s' ∧ s' ≤ 100000000)
    (hD : D = (s - s') * 1000000000 + ((n : Int) - (n' : Int))) (hb : -4503599627370496 ≤ D ∧ D ≤ 4503599627370496) :
    Calls Ybad.prog 29 #[.agg (tc s n), .agg (tc s' n')] w fun e w' => e = .returned (.int .i64 D) ∧ Below w.heap.size w w' := by
  obtain ⟨hs1, hs2⟩ := hs
  obtain ⟨hs3, hs4⟩ := hs'
  obtain ⟨hb1, hb2⟩ := hb
  have m1 := and_two n n' (by omega) (by omega)
  have m2 := and_mask n (by omega)
  have m3 := and_mask n' (by omega)
  have m4 := and_top n (by omega)
  have m5 := and_top n' (by omega)
  have e1 : (s - s') * 1000000000 + ((n : Int) - (n' : Int)) = D := hD.symm
  have HD := hide hD
  clear hD
  have S0 : ∀ W0, W0 = (w.alloc (.cells (tc s n) 33)).alloc (.cells (tc s' n') 33) → Hid (W0.heap.size = w.heap.size + 2 ∧ (∀ wx, Below W0.heap.size W0 wx → wx.cell? ⟨w.heap.size, 0, none⟩ = some (.int .u64 (n : Int))) ∧ (∀ wx, Below W0.heap.size W0 wx → wx.cell? ⟨w.heap.size, 1, none⟩ = some (.int .i64 s)) ∧ (∀ wx, Below W0.heap.size W0 wx → wx.cell? ⟨w.heap.size, 2, none⟩ = some (.pointer none))
      ∧ (∀ wx, Below W0.heap.size W0 wx → wx.cell? ⟨w.heap.size + 1, 0, none⟩ = some (.int .u64 (n' : Int))) ∧ (∀ wx, Below W0.heap.size W0 wx → wx.cell? ⟨w.heap.size + 1, 1, none⟩ = some (.int .i64 s')) ∧ (∀ wx, Below W0.heap.size W0 wx → wx.cell? ⟨w.heap.size + 1, 2, none⟩ = some (.pointer none))) := by
    intro W0 hW
    have hsz : W0.heap.size = w.heap.size + 2 := by rw [hW]; simp
    refine ⟨hsz, ?_, ?_, ?_, ?_, ?_, ?_⟩ <;> intro wx hx <;> rw [hx.cell (by rw [hsz]; first | (show w.heap.size < _; omega) | (show w.heap.size + 1 < _; omega)), hW] <;> go_simp
  go_enter Ybad.func29, Ybad.ntmps29
  go_wp2_with (first | (go_at_call 13; go_in) | (go_at_call 18; go_in))
  generalize hW0 : (w.alloc (.cells (tc s n) 33)).alloc (.cells (tc s' n') 33) = W0
  obtain ⟨hsz, c0, c1, c2, c3, c4, c5⟩ := (S0 W0 hW0.symm).out
  have HW := hide hW0
  have HSZ := hide hsz
  clear hW0 S0 hsz
  have K5 : Hid (∀ wx, Below W0.heap.size W0 wx → Calls Ybad.prog 5 #[.agg (tc s' n'), .int .i64 D] wx fun e w' => e = .returned (.agg (tc s n)) ∧ Below W0.heap.size W0 w') := by
    intro wx hx
    refine (add5 s' n' D s n wx hn' hn ⟨by omega, by omega⟩ ⟨hb1, hb2⟩ (by have := HD.out; omega)).mono ?_
    rintro e w' ⟨rfl, hb'⟩
    exact ⟨rfl, hx.trans (hb'.mono hx.size)⟩
  have K17 : Hid (∀ wx, Below W0.heap.size W0 wx → Calls Ybad.prog 17 #[.agg (tc s n), .agg (tc s n)] wx fun e w' => e = .returned (.bool true) ∧ Below W0.heap.size W0 w') := by
    intro wx hx
    refine (equal17 s n wx hn).mono ?_
    rintro e w' ⟨rfl, hb'⟩
    exact ⟨rfl, hx.trans (hb'.mono hx.size)⟩
  have hb0 := Below.refl W0.heap.size W0
  go_region_held (fun w' => Below W0.heap.size W0 w') (first | assumption | (apply Below.drew; assumption)) (first | (go_at_call 5; refine (K5.out _ (by first | assumption | (apply Below.drew; assumption))).mono ?_; rintro e w5 ⟨rfl, hb5⟩) | (go_at_call 17; refine (K17.out _ (by first | assumption | (apply Below.drew; assumption))).mono ?_; rintro e w6 ⟨rfl, hb6⟩))
  clear c0 c1 c2 c3 c4 c5
  go_wp2
  go_ret
  refine ⟨rfl, ?_⟩
  have hb' : Below w.heap.size w W0 := by rw [← HW.out]; exact ((Below.refl _ w).alloc (Nat.le_refl _) _).alloc (by simp) _
  exact hb'.trans (hb6.mono hb'.size)

theorem up_of (t : Nat) (s : Bool) (m : Nat) (p : Int) (h : FloatKind.f64.decode t = .number s m p) :
    Extern.MathFloor.toIntegral "math.archCeil" .up #[.float .f64 t] = pure (.float .f64 (FloatKind.f64.encode ((FloatKind.f64.decode t).integral .up))) := by
  show (match (motive := Ieee.Datum → Sem Value) FloatKind.f64.decode t with
    | .nan s t' => _
    | d => pure (Value.float .f64 (FloatKind.f64.encode (d.integral .up)))) = _
  rw [h]
theorem ceil36 (t : Nat) (w : World) (s : Bool) (m : Nat) (p : Int) (h : FloatKind.f64.decode t = .number s m p) :
    Sem.run Ybad.prog (callFunc 36 #[.float .f64 t]) w = .ok (.value (.float .f64 (FloatKind.f64.encode ((FloatKind.f64.decode t).integral .up)))) w := by
  rw [run_callFunc_extern Ybad.func36 (by kernel_rfl) (by kernel_rfl) (by kernel_rfl) (e := Extern.MathFloor.toIntegral "math.archCeil" .up) (by kernel_rfl)]
  rw [up_of t s m p h]
  rfl

set_option maxHeartbeats 1000000 in
set_option maxRecDepth 100000 in
theorem left23 (s : Int) (n : Nat) (s' : Int) (n' : Nat) (D : Int) (w : World) (hn : n < 1000000000) (hn' : n' < 1000000000) (hs : -100000000 ≤ s ∧ s ≤ 100000000) (hs' : -100000000 ≤ s' ∧ s' ≤ 100000000)
    (hD : D = (s - s') * 1000000000 + ((n : Int) - (n' : Int))) (hb : -2251799813685248 ≤ D ∧ D ≤ 2251799813685248) :
    Calls Ybad.prog 23 #[.agg (tc s n), .agg (tc s' n')] w fun e w' => e = .returned (.int .i64 (Fl.ceilSec D)) ∧ Below w.heap.size w w' := by
  obtain ⟨z, t, hz, ht, ⟨sg, m, p, hdec⟩, hto⟩ := Fl.secs D hb.1 hb.2
  have k1 : ∀ wx, Sem.run Ybad.prog (binOp .quo 124 (.float .f64 (floatOfInt .f64 (D.tmod 1000000000))) (.float .f64 4741671816366391296)) wx = .ok (.float .f64 z) wx := fun wx => run_float_arith wx .quo 124 .f64 _ _ z hz
  have k2 : ∀ wx, Sem.run Ybad.prog (binOp .add 124 (.float .f64 (floatOfInt .f64 (D.tdiv 1000000000))) (.float .f64 z)) wx = .ok (.float .f64 t) wx := fun wx => run_float_arith wx .add 124 .f64 _ _ t ht
  have k3 := fun wx => ceil36 t wx sg m p hdec
  have k4 : ∀ wx, Sem.run Ybad.prog (convert 124 2 (.float .f64 (FloatKind.f64.encode ((FloatKind.f64.decode t).integral .up)))) wx = .ok (.int .i64 (Fl.ceilSec D)) wx := fun wx => run_convert_float_int wx 124 2 .f64 .i64 _ _ (by rw [Ybad.underlying124]; rfl) Ybad.underlying2 hto
  obtain ⟨hb1, hb2⟩ := hb
  have HDD := hide hD
  have HT := hide hdec
  clear hdec hD hto hz ht
  generalize FloatKind.f64.encode ((FloatKind.f64.decode t).integral .up) = c at *
  have K29 : Hid (∀ wx, Calls Ybad.prog 29 #[.agg (tc s n), .agg (tc s' n')] wx fun e w' => e = .returned (.int .i64 D) ∧ Below wx.heap.size wx w') := fun wx => sub29 s n s' n' D wx hn hn' hs hs' HDD.out ⟨by omega, by omega⟩
  go_enter Ybad.func23, Ybad.ntmps23
  go_wp2_with (first | (go_at_call 29; refine (K29.out _).mono ?_; rintro e w1 ⟨rfl, hb1⟩) | (go_at_call 30; go_in) | (go_at_call 28; go_in))
  go_ret
  refine ⟨rfl, ?_⟩
  have hb' : Below w.heap.size w ((w.alloc (.cells (tc s n) 33)).alloc (.cells (tc s' n') 33)) := ((Below.refl _ w).alloc (Nat.le_refl _) _).alloc (by simp) _
  exact hb'.trans (hb1.mono hb'.size)
end Go.Proofs.YbulkeeoiDoor

import Derived.Test.YbulkeeoiDoorRows
import Derived.Test.YbulkeeoiDoorTie
import Derived.Test.YbulkeeoiDoorCards
import Derived.Test.YbulkeeoiDoorWalk
import Derived.Test.YbulkeeoiDoorLaid
import Derived.SevenTiedAt
namespace Go.Proofs.YbulkeeoiDoor.lawS6547CWhole
open Go.ChangeShapes Go.WideShapes Go.ChangeAt Go.RowKit
set_option linter.unusedVariables false

theorem own : ownKnob Ybad.prog.godebug = none := by kernel_rfl
theorem laidOut : laidOutB Ybad.prog = true := by kernel_rfl

set_option maxHeartbeats 2000000 in
set_option maxRecDepth 100000 in
theorem big (a0 : Option Addr) (L0 c0 : Nat) (a1 : Option Addr) (L1 c1 : Nat) (a2 : Option Addr) (L2 c2 : Nat) (a3 : Option Addr) (L3 c3 : Nat) (now : Int) (w : World) (h : ¬ (L0 ≤ 1048576 ∧ L1 ≤ 1048576 ∧ L2 ≤ 1048576 ∧ L3 ≤ 1048576)) :
    Calls Ybad.prog 3 #[.slice a0 L0 c0, .slice a1 L1 c1, .slice a2 L2 c2, .slice a3 L3 c3, .int .i64 now] w fun e w' => e = .returned (.bool true) ∧ Below w.heap.size w w' := by
  by_cases h0 : 1048576 < L0
  · have d0 : decide ((1048576 : Int) < (L0 : Int)) = true := by simp; omega
    go_enter Ybad.func3, Ybad.ntmps3
    go_wp2_with fail
    go_ret
    exact ⟨rfl, Below.refl _ _⟩
  · have d0 : decide ((1048576 : Int) < (L0 : Int)) = false := by simp; omega
    by_cases h3 : 1048576 < L3
    · have d3 : decide ((1048576 : Int) < (L3 : Int)) = true := by simp; omega
      go_enter Ybad.func3, Ybad.ntmps3
      go_wp2_with fail
      go_ret
      exact ⟨rfl, Below.refl _ _⟩
    · have d3 : decide ((1048576 : Int) < (L3 : Int)) = false := by simp; omega
      by_cases h1 : 1048576 < L1
      · have d1 : decide ((1048576 : Int) < (L1 : Int)) = true := by simp; omega
        go_enter Ybad.func3, Ybad.ntmps3
        go_wp2_with fail
        go_ret
        exact ⟨rfl, Below.refl _ _⟩
      · have d1 : decide ((1048576 : Int) < (L1 : Int)) = false := by simp; omega
        have d2 : decide ((1048576 : Int) < (L2 : Int)) = true := by simp; omega
        go_enter Ybad.func3, Ybad.ntmps3
        go_wp2_with fail
        go_ret
        exact ⟨rfl, Below.refl _ _⟩

theorem walk {I : In} {p : Pl} {w : World} (M : Mem I p w) (now : Int) (hnow : -9223372036854775808 ≤ now ∧ now ≤ 9223372036854775807) :
    Calls Ybad.prog 3 #[.slice p.a0 I.L0 p.c0, .slice p.a1 I.L1 p.c1, .slice p.a2 I.L2 p.c2, .slice p.a3 I.L3 p.c3, .int .i64 now] w fun e w' => e = .returned (.bool true) ∧ Below w.heap.size w w' := by
  by_cases h : I.L0 ≤ 1048576 ∧ I.L1 ≤ 1048576 ∧ I.L2 ≤ 1048576 ∧ I.L3 ≤ 1048576
  · exact walk3 I p now w M hnow h.1 h.2.1 h.2.2.1 h.2.2.2
  · exact big _ _ _ _ _ _ _ _ _ _ _ _ _ _ h

set_option maxRecDepth 100000 in
theorem lifted (os : Os) (started : os.Started) (H : Type) (enc : TypeId × Value → H) :
    ReturnsInHanded {} Ybad.checked os 3 .any (fun w args => (Rows.lawS6547CWholeSpec.pre enc Ybad.prog Ybad.f3 [] false w args ∧ laidMetH Ybad.prog laid3 w) ∧ sizedMet enc Ybad.prog Ybad.f3 (OpenSpec.ofChange Rows.lawS6547CWholeSpec) false w args)
      (Rows.lawS6547CWholeSpec.post enc Ybad.prog Ybad.f3 false true false false) := by
  refine returnsInHanded_of_change_and (C := Ybad.checked) (X := fun w _ => laidMetH Ybad.prog laid3 w) (fun _ _ _ hh h => h.of_heap hh) own started (by kernel_rfl) Ybad.func3
    (ChangeSpec.witness_shaped (enc := enc) (C := Ybad.checked) (os := os) (X := fun w _ => laidMetH Ybad.prog laid3 w) false (World.doorLaid Ybad.prog 400 os) #[.slice none 0 0, .slice none 0 0, .slice none 0 0, .slice none 0 0, .int .i64 0] 8 rfl (World.shaped_of_RefB (by kernel_rfl) (by kernel_rfl)) (by kernel_rfl) (by kernel_rfl) (by kernel_rfl) (door_met os _)) ?_
  intro W base args ds gs before hval0 hW hcnd hsz0 hL _
  have hval : ∀ (j : Nat) t v, Ybad.f3.params[j]? = some t → args[j]? = some v → Value.okWide Ybad.prog W .any base t v := hval0
  have hsz : (DataW.weightsEach Ybad.prog (Ybad.f3.params.toList ++ Rows.lawS6547CWholeSpec.plain.varTypes Ybad.prog) (ds ++ gs)).all (· ≤ reachBytes) = true := hsz0
  clear hsz0
  have hW' := hW
  obtain ⟨p, q, hA0, hV, rfl, hfz, hnd⟩ := hW
  have hA : DataW.TrodAll enc Ybad.prog W 0 (fun _ => true) true Ybad.f3.params.toList args.toList ds p := hA0
  rw [Ybad.params3] at hA hval hsz
  obtain ⟨v0, vs0, d0, ds0, p0, q0, hargs, rfl, rfl, h0, r0⟩ := trodAll_cons hA
  obtain ⟨v1, vs1, d1, ds1, p1, q1, rfl, rfl, rfl, h1, r1⟩ := trodAll_cons r0
  obtain ⟨v2, vs2, d2, ds2, p2, q2, rfl, rfl, rfl, h2, r2⟩ := trodAll_cons r1
  obtain ⟨v3, vs3, d3, ds3, p3, q3, rfl, rfl, rfl, h3, r3⟩ := trodAll_cons r2
  obtain ⟨v4, vs4, d4, ds4, p4, q4, rfl, rfl, rfl, h4, r4⟩ := trodAll_cons r3
  obtain ⟨rfl, rfl, rfl⟩ := trodAll_nil r4
  obtain rfl : args = #[v0, v1, v2, v3, v4] := by cases args; simp_all
  obtain ⟨rfl, rfl⟩ := trodVars_none hV
  obtain ⟨a0, L0, c0, rfl⟩ := okWide_slice Ybad.underlying22 (hval 0 22 v0 rfl rfl)
  obtain ⟨a1, L1, c1, rfl⟩ := okWide_slice Ybad.underlying23 (hval 1 23 v1 rfl rfl)
  obtain ⟨a2, L2, c2, rfl⟩ := okWide_slice Ybad.underlying24 (hval 2 24 v2 rfl rfl)
  obtain ⟨a3, L3, c3, rfl⟩ := okWide_slice Ybad.underlying25 (hval 3 25 v3 rfl rfl)
  have lt0 : ∀ x ∈ p0, x.block < W.heap.size := by obtain ⟨m, hm⟩ := h0; exact DataW.trod_lt m _ _ _ hm
  have lt1 : ∀ x ∈ p1, x.block < W.heap.size := by obtain ⟨m, hm⟩ := h1; exact DataW.trod_lt m _ _ _ hm
  have lt2 : ∀ x ∈ p2, x.block < W.heap.size := by obtain ⟨m, hm⟩ := h2; exact DataW.trod_lt m _ _ _ hm
  have lt3 : ∀ x ∈ p3, x.block < W.heap.size := by obtain ⟨m, hm⟩ := h3; exact DataW.trod_lt m _ _ _ hm
  obtain ⟨now, rfl, rfl, rfl, w4⟩ := open_int Ybad.underlying2 (hval 4 2 v4 rfl rfl) h4
  have hw3 : ∀ n ∈ d3.weights Ybad.prog 25, n ≤ reachBytes := fun n hn => of_decide_eq_true (List.all_eq_true.1 hsz _ (DataW.weights_mem_each (j := 3) (t := 25) (d := d3) rfl rfl _ hn))
  clear hA0 hval0
  obtain ⟨I, pl, M, rfl, rfl, rfl, rfl, rfl, rfl, rfl, rfl, rfl, rfl, rfl, rfl⟩ := mem_of h0 h1 h2 h3 hw3 (of_laid hL)
  refine (walk M now (wf_i64 w4)).mono fun e W' ⟨he, bel⟩ => ?_
  subst he
  exact ⟨_, rfl, _, _, _, [], _, [], hW', trodAll_mk1 (shut_bool Ybad.underlying4 _), (trodAll_cons_mk (Below.trod laidOut (by kernel_rfl) (of_decide_eq_true (by kernel_rfl)) h0 bel lt0) (trodAll_cons_mk (Below.trod laidOut (by kernel_rfl) (of_decide_eq_true (by kernel_rfl)) h1 bel lt1) (trodAll_cons_mk (Below.trod laidOut (by kernel_rfl) (of_decide_eq_true (by kernel_rfl)) h2 bel lt2) (trodAll_cons_mk (Below.trod laidOut (by kernel_rfl) (of_decide_eq_true (by kernel_rfl)) h3 bel lt3) (trodAll_cons_mk (shut_int Ybad.underlying2 w4) trodAll_mk0))))), rfl, bel.frame _, fun h => by cases h⟩

theorem over : Rows.LawS6547CWholeSaid :=
  OpenClaim.holds_of_wide 3 Ybad.f3 rfl rfl rfl rfl rfl rfl rfl ⟨rfl, rfl, rfl, rfl, rfl⟩ rfl rfl rfl rfl rfl (by kernel_rfl) Ybad.func3 (by kernel_rfl)
    (of_decide_eq_true (by kernel_rfl)) (by unfold Func.isWrapper; first | (rw [if_pos (by decide +kernel)]; kernel_rfl) | (rw [if_neg (by decide +kernel)]; exact ⟨rfl, rfl⟩))
    (fun os started H enc _ => lifted os started H enc)

/-- THE STATEMENT: THE TIED CARD -/
theorem proved : Rows.LawS6547CWholeCardSaid :=
  Claim7.holds_tied_plain_at .later [] [.data, .data, .data] true (true, "b4fb7fbb4a2d6f838300d7a3d27837e83a5bde4110718cffbcf33465a5940447") false
    over (fun _ h => by cases h) (by kernel_rfl) (fun _ h => by cases h) lawS6547CWhole_row_tie rfl ⟨rfl, rfl⟩ (by kernel_rfl) rfl
    (fun f fn hf hfn => by
      obtain rfl : f = 3 := Option.some.inj ((show Ybad.prog.funcNamed Ybad.f3.name = some 3 by kernel_rfl).symm.trans hf) |>.symm
      obtain rfl : fn = Ybad.f3 := (Option.some.inj (Ybad.func3.symm.trans hfn)).symm
      exact ⟨by kernel_rfl, fun j t ht => by
        rw [Ybad.params3] at ht
        have h3 : t = 22 ∨ t = 23 ∨ t = 24 ∨ t = 25 ∨ t = 2 := by
          rcases j with _ | _ | _ | _ | _ | j
          · exact Or.inl (by simpa using ht.symm)
          · exact Or.inr (Or.inl (by simpa using ht.symm))
          · exact Or.inr (Or.inr (Or.inl (by simpa using ht.symm)))
          · exact Or.inr (Or.inr (Or.inr (Or.inl (by simpa using ht.symm))))
          · exact Or.inr (Or.inr (Or.inr (Or.inr (by simpa using ht.symm))))
          · simp at ht
        rcases h3 with rfl | rfl | rfl | rfl | rfl
        · exact (show Ybad.prog.wantsStandIn 22 = false by kernel_rfl)
        · exact (show Ybad.prog.wantsStandIn 23 = false by kernel_rfl)
        · exact (show Ybad.prog.wantsStandIn 24 = false by kernel_rfl)
        · exact (show Ybad.prog.wantsStandIn 25 = false by kernel_rfl)
        · exact (show Ybad.prog.wantsStandIn 2 = false by kernel_rfl)⟩)
    (by kernel_rfl)
#print axioms proved
end Go.Proofs.YbulkeeoiDoor.lawS6547CWhole

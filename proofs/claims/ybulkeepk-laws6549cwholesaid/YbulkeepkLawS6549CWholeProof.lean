/- The proof of 'Rows.LawS6549CWholeSaid': the walk in YbulkeepkWalkC, the arguments opened in YbulkeepkOpenC. -/
import Derived.Test.YbulkeepkRows
import Derived.Test.YbulkeepkWalkC
import Derived.Test.YbulkeepkOpenC
import Derived.WalkKit
import Derived.ProofKit
import Derived.OpenShut
import Derived.ShutString
import Derived.ChangeOld
import Derived.Below
import Derived.SizedLaws
namespace Go.Proofs.Ybulkeepk.lawS6549CWhole
open Go.ChangeShapes Go.WideShapes Go.ChangeAt Go.RowKit
set_option linter.unusedVariables false

theorem own : ownKnob Yba.prog.godebug = none := by kernel_rfl
theorem laidOut : laidOutB Yba.prog = true := by kernel_rfl
set_option maxHeartbeats 1000000 in
set_option maxRecDepth 100000 in
theorem big (a0 : Option Addr) (len0 cap0 : Nat) (a1 : Option Addr) (len1 cap1 : Nat) (a2 a3 : Int) (w : World) (h : 65536 < len0) :
    Calls Yba.prog 5 #[.slice a0 len0 cap0, .slice a1 len1 cap1, .int .u32 a2, .int .u32 a3] w fun e w' => e = .returned (.bool true) ∧ Below w.heap.size w w' := by
  have hd : decide ((65536 : Int) < (len0 : Int)) = true := by simp; omega
  go_enter Yba.func5, Yba.ntmps5
  go_wp2_with fail
  go_ret
  exact ⟨rfl, Below.refl _ _⟩
set_option maxHeartbeats 1000000 in
set_option maxRecDepth 100000 in
theorem small (a0 : Option Addr) (cap0 : Nat) (a1 : Option Addr) (len1 cap1 : Nat) (a2 a3 : Int) (w : World) :
    Calls Yba.prog 5 #[.slice a0 0 cap0, .slice a1 len1 cap1, .int .u32 a2, .int .u32 a3] w fun e w' => e = .returned (.bool true) ∧ Below w.heap.size w w' := by
  go_enter Yba.func5, Yba.ntmps5
  go_wp2_with fail
  go_ret
  exact ⟨rfl, Below.refl _ _⟩

theorem walk (a0 : Option Addr) (len0 cap0 : Nat) (a1 : Option Addr) (len1 cap1 : Nat) (a2 a3 : Int) (w : World) (k0 : Hp.Acts w a0 len0) (k1 : Hp.Seeds w a1 len1 cap1) (w2 : (Lit.int .u32 a2).wf = true) (w3 : (Lit.int .u32 a3).wf = true) :
    Calls Yba.prog 5 #[.slice a0 len0 cap0, .slice a1 len1 cap1, .int .u32 a2, .int .u32 a3] w fun e w' => e = .returned (.bool true) ∧ Below w.heap.size w w' := by
  by_cases hbig : 65536 < len0
  · exact big _ _ _ _ _ _ _ _ _ hbig
  · rcases k0 with h0 | ⟨ab, ao, A, rfl, hA⟩
    · subst h0; exact small _ _ _ _ _ _ _ _
    · rcases Nat.eq_zero_or_pos len0 with h0 | hpos
      · subst h0; exact small _ _ _ _ _ _ _ _
      · have q2 := bounds_u32 w2
        have q3 := bounds_u32 w3
        obtain ⟨sb, so, sd, e1, e2⟩ := k1
        have hr1 := Int.emod_nonneg a2 (show (len0 : Int) ≠ 0 by omega)
        have hr2 : a2 % (len0 : Int) < len0 := Int.emod_lt_of_pos _ (by omega)
        obtain ⟨m, hm⟩ : ∃ m : Nat, 1 + a2 % (len0 : Int) = (m : Int) := ⟨(1 + a2 % (len0 : Int)).toNat, by omega⟩
        have hr3 := Int.emod_nonneg a3 (show (m : Int) ≠ 0 by omega)
        have hr4 : a3 % (m : Int) < m := Int.emod_lt_of_pos _ (by omega)
        obtain ⟨k, hk⟩ : ∃ k : Nat, a3 % (m : Int) = (k : Int) := ⟨(a3 % (m : Int)).toNat, by omega⟩
        exact Hp.walkC len0 cap0 ab ao A a1 len1 cap1 sb so sd (fun i => (sd i % ((i : Int) + 1)).toNat) a2 a3 w m k (by omega) hpos (cell_lt (hA 0 hpos)) q2.1 q2.2 q3.1 q3.2 hm hk (by omega) (by omega) (by omega)
          (fun i hi wx => Hp.ix56 ab ao len0 cap0 i hi wx) hA e1 e2 (fun i hi => by
            have h1 := Int.emod_nonneg (sd i) (show ((i : Int) + 1) ≠ 0 by omega)
            have h2 : sd i % ((i : Int) + 1) < (i : Int) + 1 := Int.emod_lt_of_pos _ (by omega)
            exact ⟨by show _ = (((sd i % ((i : Int) + 1)).toNat : Nat) : Int); omega, by show (sd i % ((i : Int) + 1)).toNat ≤ i; omega⟩)

set_option maxRecDepth 100000 in
theorem lifted (os : Os) (started : os.Started) (H : Type) (enc : TypeId × Value → H) :
    ReturnsInHanded {} Yba.checked os 5 .any (Rows.lawS6549CWholeSpec.pre6 enc Yba.prog Yba.f5 Rows.lawS6549CWholeRow.domain false) (Rows.lawS6549CWholeSpec.post enc Yba.prog Yba.f5 false true false false) := by
  refine returnsInHanded_of_change (C := Yba.checked) own started (by kernel_rfl) Yba.func5
    (ChangeSpec.witness6 (enc := enc) (C := Yba.checked) false ⟨#[], #[.slice none 0 0, .slice none 0 0, .int .u32 0, .int .u32 0], []⟩ 8 (by kernel_rfl) (by kernel_rfl) (by kernel_rfl) (by kernel_rfl)) ?_
  intro W base args ds gs before hval0 hW hcnd _
  have hval : ∀ (j : Nat) t v, Yba.f5.params[j]? = some t → args[j]? = some v → Value.okWide Yba.prog W .any base t v := hval0
  have hW' := hW
  obtain ⟨p, q, hA0, hV, rfl, hfz, hnd⟩ := hW
  have hA : DataW.TrodAll enc Yba.prog W 0 (fun _ => true) true Yba.f5.params.toList args.toList ds p := hA0
  rw [Yba.params5] at hA hval
  obtain ⟨v0, vs0, d0, ds0, p0, q0, hargs, rfl, rfl, h0, r0⟩ := trodAll_cons hA
  obtain ⟨v1, vs1, d1, ds1, p1, q1, rfl, rfl, rfl, h1, r1⟩ := trodAll_cons r0
  obtain ⟨v2, vs2, d2, ds2, p2, q2, rfl, rfl, rfl, h2, r2⟩ := trodAll_cons r1
  obtain ⟨v3, vs3, d3, ds3, p3, q3, rfl, rfl, rfl, h3, r3⟩ := trodAll_cons r2
  obtain ⟨rfl, rfl, rfl⟩ := trodAll_nil r3
  obtain rfl : args = #[v0, v1, v2, v3] := by cases args; simp_all
  obtain ⟨rfl, rfl⟩ := trodVars_none hV
  obtain ⟨a0, len0, cap0, rfl⟩ := okWide_slice Yba.underlying56 (hval 0 56 v0 rfl rfl)
  have lt0 : ∀ x ∈ p0, x.block < W.heap.size := by obtain ⟨m, hm⟩ := h0; exact DataW.trod_lt m _ _ _ hm
  obtain ⟨a1, len1, cap1, rfl⟩ := okWide_slice Yba.underlying57 (hval 1 57 v1 rfl rfl)
  have lt1 : ∀ x ∈ p1, x.block < W.heap.size := by obtain ⟨m, hm⟩ := h1; exact DataW.trod_lt m _ _ _ hm
  obtain ⟨a2, rfl, rfl, rfl, w2⟩ := open_int Yba.underlying58 (hval 2 58 v2 rfl rfl) h2
  obtain ⟨a3, rfl, rfl, rfl, w3⟩ := open_int Yba.underlying58 (hval 3 58 v3 rfl rfl) h3
  clear hA0 hval0
  refine (walk a0 len0 cap0 a1 len1 cap1 a2 a3 W (Hp.acts_of h0) (Hp.seeds_of h1) w2 w3).mono fun e W' ⟨he, bel⟩ => ?_
  subst he
  exact ⟨_, rfl, _, _, _, [], _, [], hW', trodAll_mk1 (shut_bool Yba.underlying4 _), (trodAll_cons_mk (Below.trod laidOut (by kernel_rfl) (of_decide_eq_true (by kernel_rfl)) h0 bel lt0) (trodAll_cons_mk (Below.trod laidOut (by kernel_rfl) (of_decide_eq_true (by kernel_rfl)) h1 bel lt1) (trodAll_cons_mk (shut_int Yba.underlying58 w2) (trodAll_cons_mk (shut_int Yba.underlying58 w3) trodAll_mk0)))), rfl, bel.frame _, fun h => by cases h⟩

theorem over : Rows.lawS6549CWholeRow.holds Yba.pinned (OpenSpec.ofChange Rows.lawS6549CWholeSpec) :=
  OpenClaim.holds_of_wide 5 Yba.f5 rfl rfl rfl rfl rfl rfl rfl ⟨rfl, rfl, rfl, rfl, rfl⟩ rfl rfl rfl rfl rfl (by kernel_rfl) Yba.func5 (by kernel_rfl)
    (of_decide_eq_true (by kernel_rfl)) (by unfold Func.isWrapper; first | (rw [if_pos (by decide +kernel)]; kernel_rfl) | (rw [if_neg (by decide +kernel)]; exact ⟨rfl, rfl⟩))
    (fun os started H enc _ => lifted os started H enc)

/-- THE STATEMENT -/
theorem proved : Rows.LawS6549CWholeSaid := over
#print axioms proved
end Go.Proofs.Ybulkeepk.lawS6549CWhole

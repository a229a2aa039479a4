/- The proof of 'Rows.LawS6549AWholeSaid': the walk in YbulkeepkWalkA, the arguments opened in YbulkeepkOpen. -/
import Derived.Test.YbulkeepkRows
import Derived.Test.YbulkeepkWalkA
import Derived.Test.YbulkeepkOpen
import Derived.WalkKit
import Derived.ProofKit
import Derived.OpenShut
import Derived.ShutString
import Derived.ChangeOld
import Derived.Below
import Derived.SizedLaws
namespace Go.Proofs.Ybulkeepk.lawS6549AWhole
open Go.ChangeShapes Go.WideShapes Go.ChangeAt Go.RowKit
set_option linter.unusedVariables false

theorem own : ownKnob Yba.prog.godebug = none := by kernel_rfl
theorem laidOut : laidOutB Yba.prog = true := by kernel_rfl
theorem bytes3 : Yba.prog.bytesOf 3 = 8 := by kernel_rfl
theorem bytes32 : Yba.prog.bytesOf 32 = 24 := by kernel_rfl

set_option maxHeartbeats 1000000 in
set_option maxRecDepth 100000 in
theorem big (a0 : Option Addr) (len0 cap0 : Nat) (a1 : Option Addr) (len1 cap1 : Nat) (a2 a3 : Int) (w : World) (h : 1048576 < len0 + len1) (h0 : len0 ≤ 1152921504606846976) (h1 : len1 ≤ 1152921504606846976) :
    Calls Yba.prog 3 #[.slice a0 len0 cap0, .slice a1 len1 cap1, .int .u8 a2, .int .u8 a3] w fun e w' => e = .returned (.bool true) ∧ Below w.heap.size w w' := by
  go_enter Yba.func3, Yba.ntmps3
  go_wp2_with fail
  go_ret
  exact ⟨rfl, Below.refl _ _⟩

theorem walk (a0 : Option Addr) (len0 cap0 : Nat) (a1 : Option Addr) (len1 cap1 : Nat) (a2 a3 : Int) (w : World) (k0 : Opens w a0 len0 cap0) (k1 : Recs w a1 len1 cap1) (n0 : len0 ≤ reachBytes) (n1 : len1 ≤ reachBytes) (w2 : (Lit.int .u8 a2).wf = true) (w3 : (Lit.int .u8 a3).wf = true) :
    Calls Yba.prog 3 #[.slice a0 len0 cap0, .slice a1 len1 cap1, .int .u8 a2, .int .u8 a3] w fun e w' => e = .returned (.bool true) ∧ Below w.heap.size w w' := by
  by_cases hbig : 1048576 < len0 + len1
  · unfold reachBytes at n0 n1
    exact big _ _ _ _ _ _ _ _ _ hbig (by omega) (by omega)
  · have q2 := bounds_u8 w2
    have q3 := bounds_u8 w3
    obtain ⟨kb, ko, o, e1, e2⟩ := k0
    obtain ⟨bb, bo, Im, Ow, Opn, e3, e4⟩ := k1
    obtain ⟨nn, hnn⟩ : ∃ nn : Nat, a3 % 4 + 1 = (nn : Int) := ⟨(a3 % 4 + 1).toNat, by omega⟩
    obtain ⟨ti, hti⟩ : ∃ ti : Nat, a2 % (nn : Int) = (ti : Int) := ⟨(a2 % (nn : Int)).toNat, by have := Int.emod_nonneg a2 (show (nn : Int) ≠ 0 by omega); omega⟩
    have hlt : a2 % (nn : Int) < nn := Int.emod_lt_of_pos _ (by omega)
    exact walkA a0 len0 cap0 a1 len1 cap1 a2 a3 w kb ko bb bo o Im Ow Opn (fun i => (Im i % (len0 : Int)).toNat) nn ti (by omega) q2.1 q2.2 q3.1 q3.2 hnn hti (by omega) (by omega) (by omega) e1 e2 e3 e4
      (fun i hi hp => by
        have h1 := Int.emod_nonneg (Im i) (show (len0 : Int) ≠ 0 by omega)
        have h2 : Im i % (len0 : Int) < len0 := Int.emod_lt_of_pos _ (by omega)
        exact ⟨by show _ = (((Im i % (len0 : Int)).toNat : Nat) : Int); omega, by show (Im i % (len0 : Int)).toNat < len0; omega⟩)

set_option maxRecDepth 100000 in
theorem lifted (os : Os) (started : os.Started) (H : Type) (enc : TypeId × Value → H) :
    ReturnsInHanded {} Yba.checked os 3 .any (Rows.lawS6549AWholeSpec.pre6 enc Yba.prog Yba.f3 Rows.lawS6549AWholeRow.domain false) (Rows.lawS6549AWholeSpec.post enc Yba.prog Yba.f3 false true false false) := by
  refine returnsInHanded_of_change_sized (C := Yba.checked) own started (by kernel_rfl) Yba.func3
    (ChangeSpec.witness6 (enc := enc) (C := Yba.checked) false ⟨#[], #[.slice none 0 0, .slice none 0 0, .int .u8 0, .int .u8 0], []⟩ 8 (by kernel_rfl) (by kernel_rfl) (by kernel_rfl) (by kernel_rfl)) ?_
  intro W base args ds gs before hval0 hW hcnd hsz _
  have hval : ∀ (j : Nat) t v, Yba.f3.params[j]? = some t → args[j]? = some v → Value.okWide Yba.prog W .any base t v := hval0
  have hW' := hW
  obtain ⟨p, q, hA0, hV, rfl, hfz, hnd⟩ := hW
  have hA : DataW.TrodAll enc Yba.prog W 0 (fun _ => true) true Yba.f3.params.toList args.toList ds p := hA0
  rw [Yba.params3] at hA hval
  obtain ⟨v0, vs0, d0, ds0, p0, q0, hargs, rfl, rfl, h0, r0⟩ := trodAll_cons hA
  obtain ⟨v1, vs1, d1, ds1, p1, q1, rfl, rfl, rfl, h1, r1⟩ := trodAll_cons r0
  obtain ⟨v2, vs2, d2, ds2, p2, q2, rfl, rfl, rfl, h2, r2⟩ := trodAll_cons r1
  obtain ⟨v3, vs3, d3, ds3, p3, q3, rfl, rfl, rfl, h3, r3⟩ := trodAll_cons r2
  obtain ⟨rfl, rfl, rfl⟩ := trodAll_nil r3
  obtain rfl : args = #[v0, v1, v2, v3] := by cases args; simp_all
  obtain ⟨rfl, rfl⟩ := trodVars_none hV
  obtain ⟨a0, len0, cap0, rfl⟩ := okWide_slice Yba.underlying22 (hval 0 22 v0 rfl rfl)
  have lt0 : ∀ x ∈ p0, x.block < W.heap.size := by obtain ⟨m, hm⟩ := h0; exact DataW.trod_lt m _ _ _ hm
  have n0 : len0 ≤ reachBytes := by
    rcases len_of Yba.underlying22 h0 with e | ⟨el, sp, rfl, e⟩
    · omega
    · have hk := sized_slice hsz (j := 0) (t := 22) (e := 3) rfl rfl Yba.underlying22
      rw [show Yba.checked.prog.bytesOf 3 = 8 from bytes3] at hk
      omega
  obtain ⟨a1, len1, cap1, rfl⟩ := okWide_slice Yba.underlying23 (hval 1 23 v1 rfl rfl)
  have lt1 : ∀ x ∈ p1, x.block < W.heap.size := by obtain ⟨m, hm⟩ := h1; exact DataW.trod_lt m _ _ _ hm
  have n1 : len1 ≤ reachBytes := by
    rcases len_of Yba.underlying23 h1 with e | ⟨el, sp, rfl, e⟩
    · omega
    · have hk := sized_slice hsz (j := 1) (t := 23) (e := 32) rfl rfl Yba.underlying23
      rw [show Yba.checked.prog.bytesOf 32 = 24 from bytes32] at hk
      omega
  obtain ⟨a2, rfl, rfl, rfl, w2⟩ := open_int Yba.underlying5 (hval 2 5 v2 rfl rfl) h2
  obtain ⟨a3, rfl, rfl, rfl, w3⟩ := open_int Yba.underlying5 (hval 3 5 v3 rfl rfl) h3
  clear hA0 hval0
  refine (walk a0 len0 cap0 a1 len1 cap1 a2 a3 W (opens_of h0) (recs_of h1) n0 n1 w2 w3).mono fun e W' ⟨he, bel⟩ => ?_
  subst he
  exact ⟨_, rfl, _, _, _, [], _, [], hW', trodAll_mk1 (shut_bool Yba.underlying4 _), (trodAll_cons_mk (Below.trod laidOut (by kernel_rfl) (of_decide_eq_true (by kernel_rfl)) h0 bel lt0) (trodAll_cons_mk (Below.trod laidOut (by kernel_rfl) (of_decide_eq_true (by kernel_rfl)) h1 bel lt1) (trodAll_cons_mk (shut_int Yba.underlying5 w2) (trodAll_cons_mk (shut_int Yba.underlying5 w3) trodAll_mk0)))), rfl, bel.frame _, fun h => by cases h⟩

theorem over : Rows.lawS6549AWholeRow.holds Yba.pinned (OpenSpec.ofChange Rows.lawS6549AWholeSpec) :=
  OpenClaim.holds_of_wide 3 Yba.f3 rfl rfl rfl rfl rfl rfl rfl ⟨rfl, rfl, rfl, rfl, rfl⟩ rfl rfl rfl rfl rfl (by kernel_rfl) Yba.func3 (by kernel_rfl)
    (of_decide_eq_true (by kernel_rfl)) (by unfold Func.isWrapper; first | (rw [if_pos (by decide +kernel)]; kernel_rfl) | (rw [if_neg (by decide +kernel)]; exact ⟨rfl, rfl⟩))
    (fun os started H enc _ => lifted os started H enc)

/-- THE STATEMENT -/
theorem proved : Rows.LawS6549AWholeSaid := over
#print axioms proved
end Go.Proofs.Ybulkeepk.lawS6549AWhole

/- The proof of 'Rows.LawS6545AWholeSaid': the frame by the shell's tool, the walk in YbulkeengWalkA. -/
import Derived.Test.YbulkeengRows
import Derived.Test.YbulkeengWalkA
import Derived.WalkKit
import Derived.ProofKit
import Derived.OpenShut
import Derived.ShutString
import Derived.ChangeOld
import Derived.Below
namespace Go.Proofs.Ybulkeeng.lawS6545AWhole
open Go.ChangeShapes Go.WideShapes Go.ChangeAt Go.RowKit
open Go.ChangeMaps (open_string shut_string)
set_option linter.unusedVariables false

theorem own : ownKnob Yba.prog.godebug = none := by kernel_rfl
theorem laidOut : laidOutB Yba.prog = true := by kernel_rfl

/-- WHAT THE WALK IS TOLD OF A SLICE OF INTEGERS THAT CAME IN: it is nil; or it leads to a row of 'cap' cells, the numbers 'zs' (the first 'len' are its elements, the rest its spare room), each fitting its kind. -/
def IsRow (k : IntKind) (w : World) (a : Option Addr) (len cap : Nat) (zs : List Int) : Prop :=
  (a = none ∧ len = 0 ∧ cap = 0 ∧ zs = []) ∨
  ∃ x, a = some x ∧ len ≤ cap ∧ cap ≤ maxLen ∧ zs.length = cap ∧ (∀ i, i < zs.length → w.cell? (x.add i) = some (.int k (zs.getD i 0))) ∧ ∀ n ∈ zs, (Lit.int k n).wf = true

theorem cell_lt {w : World} {a : Addr} {v : Value} (h : w.cell? a = some v) : a.block < w.heap.size := by
  cases hb : w.heap[a.block]? with
  | none => simp [World.cell?, hb] at h
  | some o => exact (Array.getElem?_eq_some_iff.1 hb).1

theorem clone_nil (w : World) : CloneOk none 0 0 w := by
  refine (clone5_nil 0 0 w).mono ?_
  rintro e w' ⟨rfl, rfl⟩
  refine ⟨_, rfl, Below.refl _ _, fun wx _ => ?_⟩
  refine (equal8_zero _ _ _ _ _).mono ?_
  rintro e w'' ⟨rfl, rfl⟩
  exact ⟨rfl, 0, rfl⟩

theorem clone_zero (x : Addr) (c : Nat) (w : World) : CloneOk (some x) 0 c w := by
  refine (clone5 x 0 c [] w rfl (by omega) (by intro j u hj; simp at hj) (by intro u hu; cases hu) (by intro j u hj; simp at hj)).mono ?_
  rintro e w' ⟨v', rfl, hown, _, hb⟩
  obtain ⟨a', c', rfl⟩ : ∃ a' c', v' = .slice a' 0 c' := by
    rcases hown.2 with ⟨rfl, _⟩ | ⟨g, cap, cur, rfl, _⟩
    · exact ⟨_, _, rfl⟩
    · exact ⟨_, _, rfl⟩
  refine ⟨_, rfl, hb, fun wx _ => ?_⟩
  refine (equal8_zero _ _ _ _ _).mono ?_
  rintro e w'' ⟨rfl, rfl⟩
  exact ⟨rfl, 0, rfl⟩

theorem clone_pos (b o n c : Nat) (zs : List Int) (w : World) (hn : 0 < n) (hbig : n ≤ 1048576) (hz : n ≤ zs.length) (hc : ∀ j, j < zs.length → w.cell? ⟨b, o + j, none⟩ = some (.int .u8 (zs.getD j 0))) : CloneOk (some ⟨b, o, none⟩) n c w := by
  have hl : ((zs.take n).map (Value.int .u8)).length = n := by simp; omega
  have hg : ∀ j u, ((zs.take n).map (Value.int .u8))[j]? = some u → j < n ∧ u = .int .u8 (zs.getD j 0) := by
    intro j u hj
    have hlt : j < n := by have := (List.getElem?_eq_some_iff.1 hj).1; omega
    refine ⟨hlt, ?_⟩
    have h1 : zs[j]? = some (zs.getD j 0) := by
      rw [List.getD_eq_getElem?_getD, List.getElem?_eq_getElem (show j < zs.length by omega)]; rfl
    rw [List.getElem?_map, List.getElem?_take_of_lt hlt, h1] at hj
    simpa using hj.symm
  have hcell : ∀ j u, ((zs.take n).map (Value.int .u8))[j]? = some u → w.cell? ((⟨b, o, none⟩ : Addr).add j) = some u := by
    intro j u hj
    obtain ⟨hlt, rfl⟩ := hg j u hj
    rw [Go.WideShapes.add_plain]
    exact hc j (by omega)
  refine (clone5 ⟨b, o, none⟩ n c ((zs.take n).map (Value.int .u8)) w hl hbig hcell (by intro u hu; obtain ⟨z, _, rfl⟩ := List.mem_map.1 hu; rfl) (fun j u hj => cell_lt (hcell j u hj))).mono ?_
  rintro e w' ⟨v', rfl, hown, _, hb⟩
  rcases hown.2 with ⟨_, h0⟩ | ⟨g, cap, cur, rfl, _⟩
  · omega
  · have hcs := hown.cells (g := g) rfl
    refine ⟨_, rfl, hb, fun wx hx => ?_⟩
    refine (equal8 b o g 0 n c cap zs wx hz hbig ?_ ?_).mono ?_
    · intro j hj
      have h1 := hc j (by omega)
      have h2 := cell_lt h1
      rw [hx.cell (Nat.lt_of_lt_of_le h2 hb.size), hb.cell h2]
      exact h1
    · intro j hj
      have h1 := hcs j (.int .u8 (zs.getD j 0)) (by
        have h1 : zs[j]? = some (zs.getD j 0) := by
          rw [List.getD_eq_getElem?_getD, List.getElem?_eq_getElem (show j < zs.length by omega)]; rfl
        rw [List.getElem?_map, List.getElem?_take_of_lt hj, h1]; rfl)
      rw [Go.WideShapes.add_plain] at h1
      rw [hx.cell (cell_lt h1)]
      exact h1
    · rintro e w'' ⟨rfl, q, rfl⟩
      exact ⟨rfl, q, rfl⟩

theorem walk (a0 : Bool) (a1 : Option Addr) (len1 cap1 : Nat) (z1 : List Int) (a2 : Bool) (w : World) (w1 : IsRow .u8 w a1 len1 cap1 z1) :
    Calls Yba.prog 3 #[.bool a0, .slice a1 len1 cap1, .bool a2] w fun e w' => e = .returned (.bool true) ∧ Below w.heap.size w w' := by
  by_cases hbig : 1048576 < len1
  · exact walkA_big _ _ _ _ _ _ hbig
  · have hle : len1 ≤ 1048576 := by omega
    rcases w1 with ⟨rfl, rfl, rfl, _⟩ | ⟨x, rfl, h1, _, h2, hcell, _⟩
    · cases a2
      · exact walkA_f _ _ _ _ _ hle (clone_nil w)
      · exact walkA_t _ _ _ _ _ hle (clone_nil w) rfl
    · rcases Nat.eq_zero_or_pos len1 with h0 | hpos
      · subst h0
        cases a2
        · exact walkA_f _ _ _ _ _ hle (clone_zero x cap1 w)
        · exact walkA_t _ _ _ _ _ hle (clone_zero x cap1 w) rfl
      · obtain ⟨b, o, rfl, hc⟩ := ints_at hcell (by omega)
        have K := clone_pos b o len1 cap1 z1 w hpos hle (by omega) hc
        cases a2
        · exact walkA_f _ _ _ _ _ hle K
        · exact walkA_tp _ _ _ _ _ _ hle K hpos

/-! ### THE ROW's STEP: WRITTEN OUT: LEAVE IT -/
set_option maxRecDepth 100000 in
theorem lifted (os : Os) (started : os.Started) (H : Type) (enc : TypeId × Value → H) :
    ReturnsInHanded {} Yba.checked os 3 .any (Rows.lawS6545AWholeSpec.pre6 enc Yba.prog Yba.f3 Rows.lawS6545AWholeRow.domain false) (Rows.lawS6545AWholeSpec.post enc Yba.prog Yba.f3 false true false false) := by
  refine returnsInHanded_of_change (C := Yba.checked) own started (by kernel_rfl) Yba.func3
    (ChangeSpec.witness6 (enc := enc) (C := Yba.checked) false ⟨#[], #[.bool false, .slice none 0 0, .bool false], []⟩ 8 (by kernel_rfl) (by kernel_rfl) (by kernel_rfl) (by kernel_rfl)) ?_
  intro W base args ds gs before hval0 hW hcnd _
  have hval : ∀ (j : Nat) t v, Yba.f3.params[j]? = some t → args[j]? = some v → Value.okWide Yba.prog W .any base t v := hval0
  have hW' := hW
  obtain ⟨p, q, hA0, hV, rfl, hfz, hnd⟩ := hW
  have hA : DataW.TrodAll enc Yba.prog W 0 (fun _ => true) true Yba.f3.params.toList args.toList ds p := hA0
  rw [Yba.params3] at hA hval
  obtain ⟨v0, vs0, d0, ds0, p0, q0, hargs, rfl, rfl, h0, r0⟩ := trodAll_cons hA
  obtain ⟨v1, vs1, d1, ds1, p1, q1, rfl, rfl, rfl, h1, r1⟩ := trodAll_cons r0
  obtain ⟨v2, vs2, d2, ds2, p2, q2, rfl, rfl, rfl, h2, r2⟩ := trodAll_cons r1
  obtain ⟨rfl, rfl, rfl⟩ := trodAll_nil r2
  obtain rfl : args = #[v0, v1, v2] := by cases args; simp_all
  obtain ⟨rfl, rfl⟩ := trodVars_none hV
  obtain ⟨a0, rfl, rfl, rfl⟩ := open_bool Yba.underlying4 (hval 0 4 v0 rfl rfl) h0
  obtain ⟨a1, len1, cap1, rfl⟩ := okWide_slice Yba.underlying22 (hval 1 22 v1 rfl rfl)
  have k1 := h1
  have lt1 : ∀ x ∈ p1, x.block < W.heap.size := by obtain ⟨m, hm⟩ := k1; exact DataW.trod_lt m _ _ _ hm
  obtain ⟨z1, w1⟩ : ∃ zs, IsRow .u8 W a1 len1 cap1 zs := by
    obtain ⟨fuel, hf⟩ := h1
    rcases open_ints Yba.underlying22 Yba.underlying5 (by kernel_rfl) hf with ⟨hcs, _⟩ | ⟨x, l, c, zs, hcs, _, hl, hm, hz, _, hcell, hwz⟩
    · simp [Value.cells] at hcs
      obtain ⟨rfl, rfl, rfl⟩ := hcs
      exact ⟨[], .inl ⟨rfl, rfl, rfl, rfl⟩⟩
    · simp [Value.cells] at hcs
      obtain ⟨rfl, rfl, rfl⟩ := hcs
      exact ⟨zs, .inr ⟨_, rfl, hl, hm, by simpa using hz, hcell, hwz⟩⟩
  obtain ⟨a2, rfl, rfl, rfl⟩ := open_bool Yba.underlying4 (hval 2 4 v2 rfl rfl) h2
  clear hA0 hval0
  refine (walk a0 a1 len1 cap1 z1 a2 W w1).mono fun e W' ⟨he, bel⟩ => ?_
  subst he
  exact ⟨_, rfl, _, _, _, [], _, [], hW', trodAll_mk1 (shut_bool Yba.underlying4 _), (trodAll_cons_mk (shut_bool Yba.underlying4 _) (trodAll_cons_mk (Below.trod laidOut (by kernel_rfl) (of_decide_eq_true (by kernel_rfl)) k1 bel lt1) (trodAll_cons_mk (shut_bool Yba.underlying4 _) trodAll_mk0))), rfl, bel.frame _, fun h => by cases h⟩

theorem over : Rows.lawS6545AWholeRow.holds Yba.pinned (OpenSpec.ofChange Rows.lawS6545AWholeSpec) :=
  OpenClaim.holds_of_wide 3 Yba.f3 rfl rfl rfl rfl rfl rfl rfl ⟨rfl, rfl, rfl, rfl, rfl⟩ rfl rfl rfl rfl rfl (by kernel_rfl) Yba.func3 (by kernel_rfl)
    (of_decide_eq_true (by kernel_rfl)) (by unfold Func.isWrapper; first | (rw [if_pos (by decide +kernel)]; kernel_rfl) | (rw [if_neg (by decide +kernel)]; exact ⟨rfl, rfl⟩))
    (fun os started H enc _ => lifted os started H enc)

/-- ████ THE STATEMENT ████ -/
theorem proved : Rows.LawS6545AWholeSaid := over
#print axioms proved
end Go.Proofs.Ybulkeeng.lawS6545AWhole

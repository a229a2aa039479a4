import Derived.Test.YbulkeepkOpen
namespace Go.Proofs.Ybulkeepk.Hp
open Go.ChangeShapes Go.WideShapes Go.ChangeAt Go.RowKit
set_option linter.unusedVariables false

theorem trod_float {H : Type} {enc : TypeId × Value → H} {P : Program} {w : World} {base : Nat} {spare : Nat → Bool} {held : Bool} {fuel : Nat} {t : TypeId} {cs : List Value} {x : DataW H × List MemPlace} {k : FloatKind} (ht : P.underlying t = some (.float k)) (h : DataW.trod enc P w base spare held fuel t cs = some x) : ∃ b, cs = [.float k b] := by
  cases fuel with
  | zero => simp [DataW.trod] at h
  | succ n =>
    unfold DataW.trod at h
    rw [ht] at h
    split at h <;> simp_all

theorem cells66 : Yba.prog.cellsOf 66 = 1 := by kernel_rfl
theorem cells58 : Yba.prog.cellsOf 58 = 1 := by kernel_rfl
theorem ix56 (b o len c i : Nat) (hi : i < len) (w : World) : Sem.run Yba.prog (Instr.indexAt 56 (.slice (some ⟨b, o, none⟩) len c) (.int .i64 (i : Int))) w = .ok (.pointer (some ⟨b, o + i, none⟩)) w := by
  have h1 : (0 : Int) ≤ (i : Int) ∧ (i : Int) < (len : Int) := by omega
  have hu : Yba.prog.elem 56 = 66 := by kernel_rfl
  rw [run_indexAt_slice w 56 ⟨b, o, none⟩ len c .i64 i (by rw [hu]; exact Yba.underlying56), if_pos h1, hu, Yba.sizeOf66]
  simp [Addr.add_mid]
theorem ix57 (b o len c i : Nat) (hi : i < len) (w : World) : Sem.run Yba.prog (Instr.indexAt 57 (.slice (some ⟨b, o, none⟩) len c) (.int .i64 (i : Int))) w = .ok (.pointer (some ⟨b, o + i, none⟩)) w := by
  have h1 : (0 : Int) ≤ (i : Int) ∧ (i : Int) < (len : Int) := by omega
  have hu : Yba.prog.elem 57 = 58 := by kernel_rfl
  rw [run_indexAt_slice w 57 ⟨b, o, none⟩ len c .i64 i (by rw [hu]; exact Yba.underlying57), if_pos h1, hu, Yba.sizeOf58]
  simp [Addr.add_mid]

/-- What the walk is told of the activities. -/
def Acts (w : World) (a0 : Option Addr) (n : Nat) : Prop := n = 0 ∨ ∃ (ab ao : Nat) (A : Nat → Nat), a0 = some ⟨ab, ao, none⟩ ∧ ∀ i, i < n → w.cell? ⟨ab, ao + i, none⟩ = some (.float .f64 (A i))
/-- What the walk is told of the seeds. -/
def Seeds (w : World) (a1 : Option Addr) (len1 cap1 : Nat) : Prop := ∃ (sb so : Nat) (sd : Nat → Int),
  (∀ i, i < len1 → ∀ wx, Sem.run Yba.prog (Instr.indexAt 57 (.slice a1 len1 cap1) (.int .i64 (i : Int))) wx = .ok (.pointer (some ⟨sb, so + i, none⟩)) wx) ∧
  (∀ i, i < len1 → w.cell? ⟨sb, so + i, none⟩ = some (.int .u32 (sd i)) ∧ 0 ≤ sd i ∧ sd i ≤ 4294967295)

theorem acts_of {H : Type} {enc : TypeId × Value → H} {W : World} {a0 : Option Addr} {n cap0 : Nat} {d : DataW H} {p : List MemPlace} (h : DataW.Trod enc Yba.prog W 0 (fun _ => true) true 56 (.slice a0 n cap0) d p) : Acts W a0 n := by
  obtain ⟨fuel, hf⟩ := h
  rcases Go.Deep.open_slice1 Yba.underlying56 cells66 hf with ⟨hcs, _⟩ | ⟨x, l, c, m, f, V, D, Pl, hcs, _, hl, hm, hmm, hx, hel⟩
  · simp [Value.cells] at hcs
    exact .inl hcs.2.1
  · simp [Value.cells] at hcs
    obtain ⟨rfl, rfl, rfl⟩ := hcs
    rcases Nat.eq_zero_or_pos n with h0 | hpos
    · exact .inl h0
    · have hm' : m = cap0 := by simpa using hmm
      have each : ∀ i, i < n → ∃ b : Nat, W.cell? (x.add i) = some (.float .f64 b) := fun i hi => by
        obtain ⟨h1, h2⟩ := hel i (by omega)
        obtain ⟨b, hb⟩ := trod_float Yba.underlying66 h2
        simp at hb
        exact ⟨b, by rw [h1, hb]⟩
      obtain ⟨A, hA⟩ := Go.Deep.choose_lt each
      obtain ⟨b, off, spot⟩ := x
      have hspot : spot = none := by simpa [Addr.add] using World.cell?_spot (hA 0 hpos)
      subst hspot
      refine .inr ⟨b, off, A, rfl, fun i hi => ?_⟩
      have := hA i hi
      rwa [Addr.add_mid] at this

theorem seeds_of {H : Type} {enc : TypeId × Value → H} {W : World} {a0 : Option Addr} {len0 cap0 : Nat} {d : DataW H} {p : List MemPlace} (h : DataW.Trod enc Yba.prog W 0 (fun _ => true) true 57 (.slice a0 len0 cap0) d p) : Seeds W a0 len0 cap0 := by
  obtain ⟨fuel, hf⟩ := h
  rcases open_ints Yba.underlying57 Yba.underlying58 cells58 hf with ⟨hcs, _⟩ | ⟨x, l, c, ss, hcs, _, hl, hm, hz, hx, hcell, hwz⟩
  · simp [Value.cells] at hcs
    obtain ⟨rfl, rfl, rfl⟩ := hcs
    exact ⟨0, 0, fun _ => 0, fun i hi => by omega, fun i hi => by omega⟩
  · simp [Value.cells] at hcs
    obtain ⟨rfl, rfl, rfl⟩ := hcs
    have hz' : ss.length = cap0 := by simpa using hz
    rcases Nat.eq_zero_or_pos len0 with h0 | hpos
    · subst h0
      exact ⟨0, 0, fun _ => 0, fun i hi => by omega, fun i hi => by omega⟩
    · obtain ⟨b, off, spot⟩ := x
      have hspot : spot = none := by simpa [Addr.add] using World.cell?_spot (hcell 0 (by omega))
      subst hspot
      refine ⟨b, off, fun i => ss.getD i 0, fun i hi wx => ix57 b off len0 cap0 i hi wx, fun i hi => ⟨?_, ?_⟩⟩
      · have := hcell i (by omega)
        rwa [Addr.add_mid] at this
      · refine bounds_u32 (hwz _ ?_)
        show ss.getD i 0 ∈ ss
        rw [List.getD_eq_getElem?_getD, List.getElem?_eq_getElem (show i < ss.length by omega)]
        exact List.getElem_mem _
end Go.Proofs.Ybulkeepk.Hp

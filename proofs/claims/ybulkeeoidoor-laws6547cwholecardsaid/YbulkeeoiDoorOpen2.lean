import Derived.Test.YbulkeeoiDoorOpen
namespace Go.Proofs.YbulkeeoiDoor
open Go.ChangeShapes Go.WideShapes Go.ChangeAt Go.RowKit
set_option linter.unusedVariables false

section
variable {H : Type} {enc : TypeId × Value → H} {W : World}

theorem open45 {fuel : Nat} {cs : List Value} {x : DataW H × List MemPlace} (h : DataW.trod enc Ybad.prog W 0 (fun _ => true) true fuel 45 cs = some x) :
    ∃ (a : Nat) (s : ByteArray), cs = [.int .u8 (a : Int), .string s] ∧ a < 256 := by
  obtain ⟨xs, n, _, rfl, hl, hlen, hf⟩ := DataW.trod_struct Ybad.underlying45 h
  rw [cells45] at hl
  obtain ⟨c0, c1, rfl⟩ := list2 hl
  obtain ⟨y0, y1, rfl⟩ := list2 (show xs.length = 2 from hlen)
  have f0 : DataW.trod enc Ybad.prog W 0 (fun _ => true) true n 5 [c0] = some y0 := by simpa [cells5] using hf 0 _ rfl
  have f1 : DataW.trod enc Ybad.prog W 0 (fun _ => true) true n 9 [c1] = some y1 := by simpa [cells9] using hf 1 _ rfl
  obtain ⟨u, e0, _, wf⟩ := DataW.trod_int Ybad.underlying5 f0
  obtain ⟨s, e1, _⟩ := DataW.trod_string Ybad.underlying9 f1
  obtain ⟨m, rfl, hm⟩ := wf_u8 wf
  simp at e0 e1
  subst e0 e1
  exact ⟨m, s, rfl, hm⟩

theorem open28 {fuel : Nat} {cs : List Value} {x : DataW H × List MemPlace} (h : DataW.trod enc Ybad.prog W 0 (fun _ => true) true fuel 28 cs = some x) :
    ∃ (a : Nat) (v : Value) (n : Nat) (l : DataW H) (y : DataW H × List MemPlace), cs = [.int .u8 (a : Int), v] ∧ a < 256 ∧ DataW.trod enc Ybad.prog W 0 (fun _ => true) true n 26 [v] = some y ∧ x.1 = .agg [l, y.1] := by
  obtain ⟨xs, n, _, rfl, hl, hlen, hf⟩ := DataW.trod_struct Ybad.underlying28 h
  rw [cells28] at hl
  obtain ⟨c0, c1, rfl⟩ := list2 hl
  obtain ⟨y0, y1, rfl⟩ := list2 (show xs.length = 2 from hlen)
  have f0 : DataW.trod enc Ybad.prog W 0 (fun _ => true) true n 5 [c0] = some y0 := by simpa [cells5] using hf 0 _ rfl
  have f1 : DataW.trod enc Ybad.prog W 0 (fun _ => true) true n 26 [c1] = some y1 := by simpa [cells26] using hf 1 _ rfl
  obtain ⟨u, e0, _, wf⟩ := DataW.trod_int Ybad.underlying5 f0
  obtain ⟨m, rfl, hm⟩ := wf_u8 wf
  simp at e0
  subst e0
  exact ⟨m, c1, n, y0.1, y1, rfl, hm, f1, rfl⟩

theorem open75 {fuel : Nat} {cs : List Value} {x : DataW H × List MemPlace} (h : DataW.trod enc Ybad.prog W 0 (fun _ => true) true fuel 75 cs = some x) :
    ∃ b : Bd, cs = (rb (b.id : Int) b.ev b.uri b.ex).toList ∧ b.ok := by
  obtain ⟨xs, n, _, rfl, hl, hlen, hf⟩ := DataW.trod_struct Ybad.underlying75 h
  rw [cells75] at hl
  obtain ⟨c0, c1, c2, c3, rfl⟩ := list4 hl
  obtain ⟨y0, y1, y2, y3, rfl⟩ := list4 (show xs.length = 4 from hlen)
  have f0 : DataW.trod enc Ybad.prog W 0 (fun _ => true) true n 30 [c0] = some y0 := by simpa [cells30] using hf 0 _ rfl
  have f1 : DataW.trod enc Ybad.prog W 0 (fun _ => true) true n 73 [c1] = some y1 := by simpa [cells73] using hf 1 _ rfl
  have f2 : DataW.trod enc Ybad.prog W 0 (fun _ => true) true n 9 [c2] = some y2 := by simpa [cells9] using hf 2 _ rfl
  have f3 : DataW.trod enc Ybad.prog W 0 (fun _ => true) true n 2 [c3] = some y3 := by simpa [cells2] using hf 3 _ rfl
  obtain ⟨u0, e0, _, w0⟩ := DataW.trod_int Ybad.underlying30 f0
  obtain ⟨u1, e1, _, w1⟩ := DataW.trod_int Ybad.underlying73 f1
  obtain ⟨u2, e2, _⟩ := DataW.trod_string Ybad.underlying9 f2
  obtain ⟨u3, e3, _, w3⟩ := DataW.trod_int Ybad.underlying2 f3
  obtain ⟨m, rfl, hm⟩ := wf_u64 w0
  simp at e0 e1 e2 e3
  subst e0 e1 e2 e3
  exact ⟨⟨m, u1, u2, u3⟩, rfl, hm, wf_i8 w1, wf_i64 w3⟩

/-- The bindings of one change. -/
theorem binds_of {fuel : Nat} {v : Value} {y : DataW H × List MemPlace} (h : DataW.trod enc Ybad.prog W 0 (fun _ => true) true fuel 26 [v] = some y) :
    ∃ (a : Option Addr) (n c g o : Nat) (B : Nat → Bd), v = .slice a n c ∧ (a = none → n = 0) ∧ Idx 26 (.slice a n c) n g (fun k => o + k * 4) ∧ At W n g (fun k => o + k * 4) (fun k => (rb ((B k).id : Int) (B k).ev (B k).uri (B k).ex).toList) ∧ (∀ k, k < n → (B k).ok) ∧ (n ≠ 0 → ∃ (D : Nat → DataW H) (sp : List (DataW H)), y.1 = .slice ((List.range n).map D) sp) := by
  obtain ⟨a, n, c, rfl⟩ : ∃ a n c, v = .slice a n c := by
    rcases Go.Deep.open_slice Ybad.underlying26 h with ⟨hcs, _⟩ | ⟨ad, l, c, m, n, D, Pl, hcs, _⟩
    · simp at hcs; exact ⟨_, _, _, hcs⟩
    · simp at hcs; exact ⟨_, _, _, hcs⟩
  obtain ⟨h1, g, o, m, D, cs, h2, h3, h4⟩ := slice_of Ybad.underlying26 cells75 Ybad.sizeOf75 (by omega) h
  have each : ∀ k, k < n → ∃ b : Bd, cs k = (rb (b.id : Int) b.ev b.uri b.ex).toList ∧ b.ok := fun k hk => by
    obtain ⟨_, ⟨Pk, hp⟩, _⟩ := h3 k hk
    exact open75 hp
  haveI : Inhabited Bd := ⟨⟨0, 0, ByteArray.empty, 0⟩⟩
  obtain ⟨B, hB⟩ := Go.Deep.choose_lt each
  refine ⟨a, n, c, g, o, B, rfl, h1, h2, fun k hk t u hu => (h3 k hk).2.2 t u (by rw [(hB k hk).1]; exact hu), fun k hk => (hB k hk).2, fun h0 => ?_⟩
  obtain ⟨sp, hsp⟩ := h4 h0
  exact ⟨D, sp, hsp⟩

theorem weightsAll_mem {P : Program} {e : TypeId} : ∀ {l : List (DataW H)} {d : DataW H}, d ∈ l → ∀ n ∈ d.weights P e, n ∈ DataW.weightsAll P e l
  | d' :: r, d, hd, n, hn => by
    simp only [DataW.weightsAll, List.mem_append]
    rcases List.mem_cons.1 hd with rfl | h
    · exact Or.inl hn
    · exact Or.inr (weightsAll_mem h n hn)
theorem bytes75 : Ybad.prog.bytesOf 75 = 40 := by kernel_rfl

/-- One binding list's weight is among the changes' weights. -/
theorem weight_of {D : Nat → DataW H} {L : Nat} {sp : List (DataW H)} {j : Nat} (hj : j < L) {l : DataW H} {D' : Nat → DataW H} {n : Nat} {sp' : List (DataW H)} (hD : D j = .agg [l, .slice ((List.range n).map D') sp']) :
    (n + sp'.length) * 40 ∈ (DataW.slice ((List.range L).map D) sp).weights Ybad.prog 25 := by
  simp only [DataW.weights, Ybad.underlying25, List.mem_cons, List.mem_append]
  refine Or.inr (Or.inl (weightsAll_mem (d := D j) (List.mem_map.2 ⟨j, List.mem_range.2 hj, rfl⟩) _ ?_))
  rw [hD]
  simp only [DataW.weights, Ybad.underlying28]
  simp [DataW.weightsEach, DataW.weights, Ybad.underlying26, bytes75]
end
end Go.Proofs.YbulkeeoiDoor

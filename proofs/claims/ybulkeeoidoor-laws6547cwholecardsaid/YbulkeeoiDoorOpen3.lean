import Derived.Test.YbulkeeoiDoorOpen2
namespace Go.Proofs.YbulkeeoiDoor
open Go.ChangeShapes Go.WideShapes Go.ChangeAt Go.RowKit
set_option linter.unusedVariables false

/-- One change, opened. -/
structure Ch where
  kc : Nat
  a : Option Addr
  n : Nat
  c : Nat
  g : Nat
  o : Nat
  B : Nat → Bd

section
variable {H : Type} {enc : TypeId × Value → H} {W : World}

theorem mem_of {a0 a1 a2 a3 : Option Addr} {L0 c0 L1 c1 L2 c2 L3 c3 : Nat} {d0 d1 d2 d3 : DataW H} {p0 p1 p2 p3 : List MemPlace}
    (h0 : DataW.Trod enc Ybad.prog W 0 (fun _ => true) true 22 (.slice a0 L0 c0) d0 p0) (h1 : DataW.Trod enc Ybad.prog W 0 (fun _ => true) true 23 (.slice a1 L1 c1) d1 p1)
    (h2 : DataW.Trod enc Ybad.prog W 0 (fun _ => true) true 24 (.slice a2 L2 c2) d2 p2) (h3 : DataW.Trod enc Ybad.prog W 0 (fun _ => true) true 25 (.slice a3 L3 c3) d3 p3)
    (hw : ∀ n ∈ d3.weights Ybad.prog 25, n ≤ reachBytes) (tab : Lib.TabIs Ybad.prog W Ybad.powName .u64 Lib.pow10Tab) :
    ∃ (I : In) (p : Pl), Mem I p W ∧ p.a0 = a0 ∧ I.L0 = L0 ∧ p.c0 = c0 ∧ p.a1 = a1 ∧ I.L1 = L1 ∧ p.c1 = c1 ∧ p.a2 = a2 ∧ I.L2 = L2 ∧ p.c2 = c2 ∧ p.a3 = a3 ∧ I.L3 = L3 ∧ p.c3 = c3 := by
  obtain ⟨m0, q0⟩ := h0
  obtain ⟨m1, q1⟩ := h1
  obtain ⟨m2, q2⟩ := h2
  obtain ⟨m3, q3⟩ := h3
  obtain ⟨_, g0, o0, n0, D0, s0, x0, e0, _⟩ := slice_of Ybad.underlying22 cells45 Ybad.sizeOf45 (by omega) (show DataW.trod enc Ybad.prog W 0 (fun _ => true) true m0 22 [.slice a0 L0 c0] = some (d0, p0) from q0)
  obtain ⟨_, g1, o1, n1, D1, s1, x1, e1, _⟩ := slice_of Ybad.underlying23 cells30 Ybad.sizeOf30 (by omega) (show DataW.trod enc Ybad.prog W 0 (fun _ => true) true m1 23 [.slice a1 L1 c1] = some (d1, p1) from q1)
  obtain ⟨_, g2, o2, n2, D2, s2, x2, e2, _⟩ := slice_of Ybad.underlying24 cells5 Ybad.sizeOf5 (by omega) (show DataW.trod enc Ybad.prog W 0 (fun _ => true) true m2 24 [.slice a2 L2 c2] = some (d2, p2) from q2)
  obtain ⟨_, g3, o3, n3, D3, s3, x3, e3, dd3⟩ := slice_of Ybad.underlying25 cells28 Ybad.sizeOf28 (by omega) (show DataW.trod enc Ybad.prog W 0 (fun _ => true) true m3 25 [.slice a3 L3 c3] = some (d3, p3) from q3)
  have f0 : ∀ i, i < L0 → ∃ t : Nat × ByteArray, s0 i = [.int .u8 (t.1 : Int), .string t.2] ∧ t.1 < 256 := fun i hi => by
    obtain ⟨_, ⟨Pk, hp⟩, _⟩ := e0 i hi
    obtain ⟨a, s, h, h'⟩ := open45 hp
    exact ⟨(a, s), h, h'⟩
  have f1 : ∀ i, i < L1 → ∃ t : Nat, s1 i = [.int .u64 (t : Int)] ∧ t < 18446744073709551616 := fun i hi => by
    obtain ⟨_, ⟨Pk, hp⟩, _⟩ := e1 i hi
    obtain ⟨u, e, _, wf⟩ := DataW.trod_int Ybad.underlying30 hp
    obtain ⟨m, rfl, hm⟩ := wf_u64 wf
    exact ⟨m, e, hm⟩
  have f2 : ∀ i, i < L2 → ∃ t : Nat, s2 i = [.int .u8 (t : Int)] ∧ t < 256 := fun i hi => by
    obtain ⟨_, ⟨Pk, hp⟩, _⟩ := e2 i hi
    obtain ⟨u, e, _, wf⟩ := DataW.trod_int Ybad.underlying5 hp
    obtain ⟨m, rfl, hm⟩ := wf_u8 wf
    exact ⟨m, e, hm⟩
  have f3 : ∀ j, j < L3 → ∃ t : Ch, s3 j = [.int .u8 (t.kc : Int), .slice t.a t.n t.c] ∧ t.kc < 256 ∧ Idx 26 (.slice t.a t.n t.c) t.n t.g (fun k => t.o + k * 4) ∧ At W t.n t.g (fun k => t.o + k * 4) (fun k => (rb ((t.B k).id : Int) (t.B k).ev (t.B k).uri (t.B k).ex).toList) ∧ (∀ k, k < t.n → (t.B k).ok) ∧ (t.a = none → t.n = 0) ∧ t.n ≤ 4398046511104 := fun j hj => by
    obtain ⟨_, ⟨Pk, hp⟩, _⟩ := e3 j hj
    obtain ⟨a, v, n, l, y, h, h', h'', hx⟩ := open28 hp
    obtain ⟨ba, bn, bc', bg, bo, B, rfl, k1, k2, k3, k4, k5⟩ := binds_of h''
    refine ⟨⟨a, ba, bn, bc', bg, bo, B⟩, h, h', k2, k3, k4, k1, ?_⟩
    show bn ≤ 4398046511104
    rcases Nat.eq_zero_or_pos bn with h0 | h0
    · omega
    · obtain ⟨D', sp', hy⟩ := k5 (by omega)
      obtain ⟨sp, hd⟩ := dd3 (by omega)
      have hx' : D3 j = .agg [l, y.1] := hx
      have hd' : d3 = .slice ((List.range L3).map D3) sp := hd
      rw [hy] at hx'
      have := hw _ (by rw [hd']; exact weight_of hj hx')
      have hr : reachBytes = 140737488351232 := rfl
      omega
  haveI : Inhabited Ch := ⟨⟨0, none, 0, 0, 0, 0, fun _ => ⟨0, 0, ByteArray.empty, 0⟩⟩⟩
  obtain ⟨A0, hA0⟩ := Go.Deep.choose_lt f0
  obtain ⟨A1, hA1⟩ := Go.Deep.choose_lt f1
  obtain ⟨A2, hA2⟩ := Go.Deep.choose_lt f2
  obtain ⟨A3, hA3⟩ := Go.Deep.choose_lt f3
  refine ⟨⟨L0, L1, L2, L3, fun i => (A0 i).1, fun i => (A0 i).2, A1, A2, fun j => (A3 j).kc, fun j => (A3 j).n, fun j => (A3 j).B⟩, ⟨a0, c0, g0, o0, a1, c1, g1, o1, a2, c2, g2, o2, a3, c3, g3, o3, fun j => (A3 j).a, fun j => (A3 j).c, fun j => (A3 j).g, fun j => (A3 j).o⟩, ?_, rfl, rfl, rfl, rfl, rfl, rfl, rfl, rfl, rfl, rfl, rfl, rfl⟩
  exact {
    x0 := x0
    t0 := fun i hi t u hu => (e0 i hi).2.2 t u (by rw [(hA0 i hi).1]; exact hu)
    k0 := fun i hi => (hA0 i hi).2
    x1 := fun k hk wx => by have := x1 k hk wx; simp only [Nat.mul_one] at this; exact this
    t1 := fun i hi t u hu => by have := (e1 i hi).2.2 t u (by rw [(hA1 i hi).1]; exact hu); rw [Nat.mul_one] at this; exact this
    k1 := fun i hi => (hA1 i hi).2
    x2 := fun k hk wx => by have := x2 k hk wx; simp only [Nat.mul_one] at this; exact this
    t2 := fun i hi t u hu => by have := (e2 i hi).2.2 t u (by rw [(hA2 i hi).1]; exact hu); rw [Nat.mul_one] at this; exact this
    k2 := fun i hi => (hA2 i hi).2
    x3 := x3
    t3 := fun i hi t u hu => (e3 i hi).2.2 t u (by rw [(hA3 i hi).1]; exact hu)
    k3 := fun j hj => (hA3 j hj).2.1
    xb := fun j hj => (hA3 j hj).2.2.1
    tb := fun j hj => (hA3 j hj).2.2.2.1
    kb := fun j hj => (hA3 j hj).2.2.2.2.1
    nb := fun j hj => (hA3 j hj).2.2.2.2.2.1
    sz := fun j hj => (hA3 j hj).2.2.2.2.2.2
    tab := tab }
end
end Go.Proofs.YbulkeeoiDoor

import Derived.Test.YbulkeepkBase
namespace Go.Proofs.Ybulkeepk
open Go.RowKit
set_option linter.unusedVariables false

/-- What crowding finds in memory: the receiver at block V, its transactions at block T, its items at block N. -/
structure Seen (V T N n ti len0 L : Nat) (aw : Option Addr) (cw b1 : Nat) (o : Nat → Int) (it : Nat → Nat) (ow op : Nat → Int) (w : World) : Prop where
  trans : w.cell? ⟨V, 1, none⟩ = some (.slice (some ⟨T, 0, none⟩) n n)
  items : w.cell? ⟨V, 2, none⟩ = some (.slice (some ⟨N, 0, none⟩) len0 len0)
  mine : w.cell? ⟨T, ti * 4, none⟩ = some (.slice aw L cw)
  open_ : ∀ j, j < len0 → w.cell? ⟨N, j * 7 + 5, none⟩ = some (.int .i64 (o j))
  rows : ∀ i, i < L → w.rangeAt b1 (i * 3) (wc3 (it i) (ow i) (op i)).toList

theorem Seen.later {V T N n ti len0 L : Nat} {aw : Option Addr} {cw b1 : Nat} {o : Nat → Int} {it : Nat → Nat} {ow op : Nat → Int} {w w' : World} (h : Seen V T N n ti len0 L aw cw b1 o it ow op w) (hb : Below w.heap.size w w') : Seen V T N n ti len0 L aw cw b1 o it ow op w' :=
  ⟨cell_below h.trans hb, cell_below h.items hb, cell_below h.mine hb, fun j hj => cell_below (h.open_ j hj) hb, fun i hi => range_below (h.rows i hi) hb⟩

set_option maxHeartbeats 2000000 in
set_option maxRecDepth 100000 in
theorem crowd7 (V T N n ti len0 L : Nat) (aw : Option Addr) (cw b1 : Nat) (o : Nat → Int) (it : Nat → Nat) (ow op : Nat → Int) (w : World) (m : Nat) (res : Value) (b : Bool) (hti : ti < n) (hn : n ≤ 4) (hL : L ≤ 1048576) (hlen : len0 ≤ 1048576) (hm : m ≤ L)
    (hit : Hid (∀ i, i < L → it i < len0)) (heq : Hid (∀ i, i < m → o (it i) = ow i)) (hne : Hid (m < L → o (it m) ≠ ow m))
    (ix : Hid (∀ i, i < L → ∀ wx, Sem.run Yba.prog (Instr.indexAt 29 (.slice aw L cw) (.int .i64 (i : Int))) wx = .ok (.pointer (some ⟨b1, i * 3, none⟩)) wx))
    (hyes : Hid (m < L → res = .agg (wc3 (it m) (ow m) (op m)) ∧ b = true)) (hno : Hid (m = L → res = .agg (wc3 0 0 0) ∧ b = false))
    (S : Hid (Seen V T N n ti len0 L aw cw b1 o it ow op w)) :
    Calls Yba.prog 7 #[.pointer (some ⟨V, 0, none⟩), .int .i64 (ti : Int)] w fun e w' => e = .returned (.tuple #[res, .bool b]) ∧ Below w.heap.size w w' := by
  have hV : V < w.heap.size := cell_lt S.out.trans
  have hT : T < w.heap.size := cell_lt S.out.mine
  have s1 := S.out.trans
  have s3 := S.out.mine
  go_enter Yba.func7, Yba.ntmps7
  go_wp2
  clear s1 s3
  go_loopg [17] L (fun g s17 wr => ∃ k : Nat, k ≤ m ∧ L - k ≤ g ∧ s17 = .int .i64 k ∧ Below (w.heap.size + 1) (w.alloc (.cells (wc3 0 0 0) 34)) wr)
  case atStart => exact ⟨0, Nat.zero_le _, by omega, rfl, Below.refl _ _⟩
  case round =>
    obtain ⟨k, hk, hg, rfl, hb⟩ := hrel
    have hb0 : Below w.heap.size w wr := ((Below.refl _ w).alloc (Nat.le_refl _) _).trans (hb.mono (by omega))
    have hsz : w.heap.size + 1 ≤ wr.heap.size := by have := hb.size; simpa using this
    have Sr := S.out.later hb0
    have rblk : wr.heap[w.heap.size]? = some (.cells (wc3 0 0 0) 34 (0, 0)) := by rw [hb.block _ (by omega)]; exact top _ _ _ rfl
    have q0 : wr.cell? ⟨w.heap.size, 0, none⟩ = some (.int .i64 0) := by simp [World.cell?, rblk]
    have q1 : wr.cell? ⟨w.heap.size, 1, none⟩ = some (.int .i64 0) := by simp [World.cell?, rblk]
    have q2 : wr.cell? ⟨w.heap.size, 2, none⟩ = some (.int .i64 0) := by simp [World.cell?, rblk]
    have z0 : wr.frozen? ⟨w.heap.size, 0, none⟩ = false := by simp [World.frozen?, rblk]
    have z1 : wr.frozen? ⟨w.heap.size, 1, none⟩ = false := by simp [World.frozen?, rblk]
    have z2 : wr.frozen? ⟨w.heap.size, 2, none⟩ = false := by simp [World.frozen?, rblk]
    have HB := hide hb
    have HB0 := hide hb0
    clear rblk hb hb0
    by_cases hlt : k < L
    · have j1 := ix.out k hlt
      have hik := hit.out k hlt
      have s2 := Sr.items
      have d0 : wr.cell? ⟨b1, k * 3, none⟩ = some (.int .i64 (it k : Int)) := Sr.rows k hlt 0 _ rfl
      have d1 : wr.cell? ⟨b1, k * 3 + 1, none⟩ = some (.int .i64 (ow k)) := Sr.rows k hlt 1 _ rfl
      have d2 : wr.cell? ⟨b1, k * 3 + 2, none⟩ = some (.int .i64 (op k)) := Sr.rows k hlt 2 _ rfl
      have d3 : wr.cell? ⟨N, it k * 7 + 5, none⟩ = some (.int .i64 (o (it k))) := Sr.open_ _ hik
      have hN := cell_lt d3
      have hB1 := cell_lt d0
      simp only at hN hB1
      have s2a := Lib.cell?_alloc_some (.cells #[.int .i64 (it k : Int), .int .i64 (ow k), .int .i64 (op k)] 34) s2
      have d3a := Lib.cell?_alloc_some (.cells #[.int .i64 (it k : Int), .int .i64 (ow k), .int .i64 (op k)] 34) d3
      have q0a := Lib.cell?_alloc_some (.cells #[.int .i64 (it k : Int), .int .i64 (ow k), .int .i64 (op k)] 34) q0
      have q1a := Lib.cell?_alloc_some (.cells #[.int .i64 (it k : Int), .int .i64 (ow k), .int .i64 (op k)] 34) q1
      have q2a := Lib.cell?_alloc_some (.cells #[.int .i64 (it k : Int), .int .i64 (ow k), .int .i64 (op k)] 34) q2
      have z0a : (wr.alloc (.cells #[.int .i64 (it k : Int), .int .i64 (ow k), .int .i64 (op k)] 34)).frozen? ⟨w.heap.size, 0, none⟩ = false := by rw [frozen?_alloc_cells]; exact z0
      have z1a : (wr.alloc (.cells #[.int .i64 (it k : Int), .int .i64 (ow k), .int .i64 (op k)] 34)).frozen? ⟨w.heap.size, 1, none⟩ = false := by rw [frozen?_alloc_cells]; exact z1
      have z2a : (wr.alloc (.cells #[.int .i64 (it k : Int), .int .i64 (ow k), .int .i64 (op k)] 34)).frozen? ⟨w.heap.size, 2, none⟩ = false := by rw [frozen?_alloc_cells]; exact z2
      clear Sr hN hB1
      by_cases hkm : k < m
      · have ht : (o (it k) != ow k) = false := by rw [heq.out k hkm]; simp
        go_wp2_with fail
        go_quiet (fail)
        go_wp2
        go_roundg (L - (k + 1))
        case measure => omega
        case rel => exact ⟨k + 1, by omega, by omega, by go_num, (HB.out.alloc hsz _).trans ⟨rfl, rfl, rfl, Nat.le_refl _, fun _ _ => rfl⟩⟩
      · have hkm' : k = m := by omega
        have ht : (o (it k) != ow k) = true := by rw [hkm']; simpa using hne.out (by omega)
        have HK := hide hkm'
        clear hkm' hkm hk
        go_wp2_with fail
        go_quiet (fail)
        go_wp2
        refine bodyPost_ret (v := .tuple #[.agg (wc3 (it k) (ow k) (op k)), .bool true]) ?_ rfl ?_
        · simp [results, Yba.results7, go_sem, q0a, q1a, q2a]
        · refine ⟨?_, ?_⟩
          · obtain ⟨e1, e2⟩ := hyes.out (by have := HK.out; omega)
            rw [e1, e2, ← HK.out]
          · refine Below.setCell ?_ (by exact Nat.le_refl _) _
            refine Below.setCell ?_ (by exact Nat.le_refl _) _
            refine Below.setCell ?_ (by exact Nat.le_refl _) _
            exact (HB0.out.alloc (by omega) _).trans ⟨rfl, rfl, rfl, Nat.le_refl _, fun _ _ => rfl⟩
    · clear Sr
      go_wp2
      refine bodyPost_ret (v := .tuple #[.agg (wc3 0 0 0), .bool false]) ?_ rfl ?_
      · simp [results, Yba.results7, go_sem, q0, q1, q2]
      · refine ⟨?_, ?_⟩
        · obtain ⟨e1, e2⟩ := hno.out (by omega)
          rw [e1, e2]
        · exact ((HB0.out.setCell (Nat.le_refl _) _).setCell (Nat.le_refl _) _).setCell (Nat.le_refl _) _
end Go.Proofs.Ybulkeepk

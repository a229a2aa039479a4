import Derived.Test.YbulkeengBoth
namespace Go.Proofs.Ybulkeeng
open Go.RowKit
set_option linter.unusedVariables false

/-- A slice of n bytes at the head of a block of its own, from block number 'base' on. -/
def BRow (base : Nat) (w : World) (v : Value) (n : Nat) : Prop := ∃ g cap, v = .slice (some ⟨g, 0, none⟩) n cap ∧ base ≤ g ∧ n ≤ cap ∧ Bys w g cap
/-- From w to w' no row of bytes has been spoilt. -/
def Byt (w w' : World) : Prop := ∀ g cap, Bys w g cap → Bys w' g cap
theorem Byt.refl (w : World) : Byt w w := fun _ _ h => h
theorem Byt.trans {a b c : World} (h : Byt a b) (k : Byt b c) : Byt a c := fun g cap x => k g cap (h g cap x)
theorem Byt.row {w w' : World} (h : Byt w w') {base : Nat} {v : Value} {n : Nat} (r : BRow base w v n) : BRow base w' v n := by
  obtain ⟨g, cap, rfl, h1, h2, h3⟩ := r
  exact ⟨g, cap, rfl, h1, h2, h g cap h3⟩

/-- What can be read as bytes through the address ad. -/
def Src (w : World) (sp : Option Addr) (sLen : Nat) : Prop := (sLen = 0) ∨ ∃ ad, sp = some ad ∧ ∀ j, j < sLen → ∃ z : Int, w.cell? (ad.add j) = some (.int .u8 z) ∧ 0 ≤ z ∧ z ≤ 255

theorem Bys.setRow {w : World} {g cap g' : Nat} {cur : Array Value} (h : Bys w g cap) (hg' : w.heap[g']? = some (.cells cur 5 (0, 0))) {new : Array Value} (hs : new.size = cur.size) (hb : ∀ v ∈ new.toList, IsB v) : Bys (w.setRow g' new) g cap := by
  by_cases e : g = g'
  · subst e
    obtain ⟨cur2, hg, hsz, _⟩ := h
    rw [hg] at hg'
    cases hg'
    exact ⟨new, setRow_heap w g cur _ 5 _ hg, by omega, hb⟩
  · obtain ⟨cur2, hg, r⟩ := h
    exact ⟨cur2, by rw [setRow_other w g' g _ e]; exact hg, r⟩

theorem bytes_list {w : World} {ad : Addr} : ∀ (k : Nat), (∀ j, j < k → ∃ z : Int, w.cell? (ad.add j) = some (.int .u8 z) ∧ 0 ≤ z ∧ z ≤ 255) → ∃ cs : List Value, cs.length = k ∧ (∀ j v, cs[j]? = some v → w.cell? (ad.add j) = some v) ∧ ∀ v ∈ cs, IsB v
  | 0, _ => ⟨[], rfl, by intro j v hj; simp at hj, by intro v hv; cases hv⟩
  | k + 1, h => by
    obtain ⟨cs, h1, h2, h3⟩ := bytes_list k (fun j hj => h j (by omega))
    obtain ⟨z, hz, h0, h255⟩ := h k (by omega)
    refine ⟨cs ++ [.int .u8 z], by simp [h1], ?_, ?_⟩
    · intro j v hj
      rcases Nat.lt_or_ge j cs.length with hl | hl
      · rw [List.getElem?_append_left hl] at hj
        exact h2 j v hj
      · rw [List.getElem?_append_right hl] at hj
        have : j - cs.length = 0 := by
          rcases Nat.eq_zero_or_pos (j - cs.length) with h | h
          · exact h
          · rw [List.getElem?_eq_none (by simp; omega)] at hj; cases hj
        rw [this] at hj
        have hjk : j = k := by omega
        simp at hj
        rw [hjk, hz, hj]
    · intro v hv
      rcases List.mem_append.1 hv with hv | hv
      · exact h3 v hv
      · simp at hv; rw [hv]; exact IsB.mk h0 h255

theorem run_copy_bytes (w : World) (ty : TypeId) (g off n c cap : Nat) (hB : Bys w g cap) (hfit : off + n ≤ cap) (sp : Option Addr) (sLen sCap : Nat) (hs : Src w sp sLen) :
    ∃ w', (Builtin.copy_ #[22, 22] ty #[.slice (some ⟨g, off, none⟩) n c, .slice sp sLen sCap]).run Yba.prog w = .ok (goInt (Nat.min sLen n)) w' ∧ (∀ B, B ≤ g → Below B w w') ∧ Byt w w' := by
  obtain ⟨i0, hi, hz0, hz1, hz2⟩ := info_parts info5
  have hsz : (Yba.prog.info? 5).map (·.size) = some 1 := by rw [hi]; simp [hz1]
  by_cases h0 : Nat.min sLen n = 0
  · refine ⟨w, ?_, fun B _ => Below.refl _ _, Byt.refl _⟩
    have := run_copy_none (P := Yba.prog) w 22 22 ty 5 (some ⟨g, off, none⟩) sp n c sLen sCap Yba.underlying22 hsz h0
    rw [this, h0]; rfl
  · rcases hs with hs | ⟨ad, rfl, hs⟩
    · subst hs; simp at h0
    · obtain ⟨cs, hl, hcs, hby⟩ := bytes_list (w := w) (ad := ad) (Nat.min sLen n) (fun j hj => hs j (Nat.lt_of_lt_of_le hj (Nat.min_le_left _ _)))
      have hle : Nat.min sLen n ≤ n := Nat.min_le_right _ _
      have hB' := hB
      obtain ⟨cur, hg, hcs2, hcb⟩ := hB'
      have hrun := run_copy_row (P := Yba.prog) w 22 22 ty 5 g off n c ad sLen sCap cur 5 cs Yba.underlying22 hsz hg hl hcs (by omega) (fun v hv => (hby v hv).one)
      refine ⟨_, by rw [hl] at hrun; exact hrun, fun B hBg => below_setRow (Below.refl _ _) hBg _, fun g' cap' h' => h'.setRow hg ?_ ?_⟩
      · simp; omega
      · intro v hv
        simp at hv
        rcases hv with hv | hv | hv
        · exact hcb v (by simpa using List.mem_of_mem_take hv)
        · exact hby v hv
        · exact hcb v (by simpa using List.mem_of_mem_drop hv)

theorem wpList_copy_bytes {ops : Array Oper} {rest : List Oper} {o : Oper} {a : Act} {Q : Exit → Act → World → Prop} {w : World} (hgd : o.guard = none) (d s : Operand)
    (ho : o.op = .call { callee := .builtin .copy, args := #[d, s], argTypes := #[22, 22] }) (g off n c cap : Nat) (hd : a.eval d = .slice (some ⟨g, off, none⟩) n c)
    (sp : Option Addr) (sLen sCap : Nat) (hs : a.eval s = .slice sp sLen sCap) (hB : Bys w g cap) (hfit : off + n ≤ cap) (hsrc : Src w sp sLen)
    (h : ∀ w', (∀ B, B ≤ g → Below B w w') → Byt w w' → wpList Yba.prog ops Q rest (a.put o.dst (goInt (Nat.min sLen n))) w') : wpList Yba.prog ops Q (o :: rest) a w := by
  refine wpList_plain hgd fun K hK => ?_
  obtain ⟨w', hrun, h1, h2⟩ := run_copy_bytes w o.type g off n c cap hB hfit sp sLen sCap hsrc
  unfold Oper.wp
  simp [execOp, ho, resolve, invoke, builtin, hd, hs, hrun, Result.andThen]
  exact hK _ _ (h w' h1 h2)

theorem step_copy_bytes {ops : Array Oper} {o : Oper} {a : Act} {w : World} {K : Act → World → Prop} {Q : Exit → Act → World → Prop} {E : Prop} (hgd : o.guard = none) (d s : Operand)
    (ho : o.op = .call { callee := .builtin .copy, args := #[d, s], argTypes := #[22, 22] }) (g off n c cap : Nat) (hd : a.eval d = .slice (some ⟨g, off, none⟩) n c)
    (sp : Option Addr) (sLen sCap : Nat) (hs : a.eval s = .slice sp sLen sCap) (hB : Bys w g cap) (hfit : off + n ≤ cap) (hsrc : Src w sp sLen)
    (h : ∀ w', (∀ B, B ≤ g → Below B w w') → Byt w w' → K (a.put o.dst (goInt (Nat.min sLen n))) w') :
    if Region.wanted o (yielded ops a.tmps) = true then Oper.wp Yba.prog o a w K Q else E := by
  have hw : Region.wanted o (yielded ops a.tmps) = true := by simp [Region.wanted, hgd]
  rw [if_pos hw]
  obtain ⟨w', hrun, h1, h2⟩ := run_copy_bytes w o.type g off n c cap hB hfit sp sLen sCap hsrc
  unfold Oper.wp
  simp [execOp, ho, resolve, invoke, builtin, hd, hs, hrun, Result.andThen]
  exact h w' h1 h2

theorem zero_cells (n : Nat) : ∀ v ∈ (Builtin.zeroCells #[.int .u8 0] n).toList, IsB v := by
  intro v hv
  simp [Builtin.zeroCells] at hv
  obtain ⟨i, _, rfl⟩ := hv
  have : i % 1 = 0 := by omega
  simp [this]
  exact IsB.mk (by decide) (by decide)

theorem wpList_append_zeros {ops : Array Oper} {rest : List Oper} {o : Oper} {a : Act} {Q : Exit → Act → World → Prop} {w : World} (hgd : o.guard = none) (s x : Operand)
    (ho : o.op = .call { callee := .builtin .append, args := #[s, x], argTypes := #[22, 3] }) (g n k : Nat) (hs : a.eval s = .slice (some ⟨g, 0, none⟩) n n) (hx : a.eval x = .int .i64 (k : Int))
    (hB : Bys w g n) (h0 : 0 < k) (hbig : n + k ≤ 2000000)
    (h : ∀ v' w', BRow w.heap.size w' v' (n + k) → Below w.heap.size w w' → Byt w w' → wpList Yba.prog ops Q rest (a.put o.dst v') w') : wpList Yba.prog ops Q (o :: rest) a w := by
  refine wpList_plain hgd fun K hK => ?_
  obtain ⟨cur, hg, hsz, hcb⟩ := hB
  subst hsz
  have hrun := run_append_zeros w o.type ⟨g, 0, none⟩ cur.size cur.size k cur.toList (by simp) (by
    intro j v hj
    rw [Go.WideShapes.add_plain]
    have hj' : cur[j]? = some v := by simpa using hj
    simp [World.cell?, hg, hj']) (by omega) h0 hbig
  have hge := grownCap_ge w (cur.size + k) cur.size 5
  unfold Oper.wp
  simp [execOp, ho, resolve, invoke, builtin, hs, hx, hrun, Result.andThen]
  refine hK _ _ (h _ _ ⟨w.heap.size, _, rfl, Nat.le_refl _, hge, ?_⟩ ?_ ?_)
  · have hy := Bys.ofAlloc (w := w.drew) (cur := cur ++ Builtin.zeroCells #[.int .u8 0] k ++ Builtin.zeroCells #[.int .u8 0] (grownCap w (cur.size + k) cur.size 5 - (cur.size + k))) (by
      intro v hv
      simp only [Array.toList_append, List.mem_append] at hv
      rcases hv with (hv | hv) | hv
      · exact hcb v hv
      · exact zero_cells _ v hv
      · exact zero_cells _ v hv)
    have hsize : (cur ++ Builtin.zeroCells #[.int .u8 0] k ++ Builtin.zeroCells #[.int .u8 0] (grownCap w (cur.size + k) cur.size 5 - (cur.size + k))).size = grownCap w (cur.size + k) cur.size 5 := by
      simp [Builtin.zeroCells]; omega
    rw [hsize, Array.append_assoc] at hy
    exact hy
  · exact (Below.refl _ w).drew.alloc (Nat.le_refl _) _
  · intro g' cap' h'
    exact Bys.alloc (w := w.drew) h' _
end Go.Proofs.Ybulkeeng

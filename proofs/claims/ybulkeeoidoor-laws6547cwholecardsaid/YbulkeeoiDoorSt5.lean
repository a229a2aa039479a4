import Derived.Test.YbulkeeoiDoorSt4
namespace Go.Proofs.YbulkeeoiDoor
open Go.RowKit Go.Sort
set_option linter.unusedVariables false

def PdOf (I : In) (i : Nat) : Nat := if I.ka i % 6 < I.L1 then I.pb (I.ka i % 6) else 0
def StOf (I : In) (i : Nat) : Int := if I.ka i % 6 < I.L2 ∧ I.bd (I.ka i % 6) % 3 ≠ 0 then 1 else 2
def GOf (I : In) (f3 : ByteArray → Option Value) (i : Nat) : Option Chg := match lastc I.kc (I.ka i % 6) I.L3 with
  | none => none
  | some j => some ⟨I.n j, I.Bb j, (f3 (aorS (I.ka i))).getD (.slice none 0 0)⟩

theorem env_of {I : In} {p : Pl} {N : Int} {w : World} {T D C : Nat} {rv wv : Value} {f1 f2 f3 : ByteArray → Option Value} {wr : World} (h : St4 I N w T D C I.L3 rv wv f1 f2 f3 wr) (M : Mem I p w) (hn : ∀ j, j < I.L3 → I.n j ≤ 1048576) :
    Env wr (D + 1 + 1) (T + 1) D (D + 1) C rv wv I.L0 (fun i => aorS (I.ka i)) I.Wr f1 f2 f3 (PdOf I) (StOf I) (GOf I f3) := by
  have hm := M.kept h.s3.s2.bel
  have h6 : ∀ i, I.ka i % 6 < 6 := fun i => Nat.mod_lt _ (by decide)
  refine { tab := hm.tab, u2 := h.s3.s2.kU.cell 2 _ rfl, u3 := h.s3.s2.kU.cell 3 _ rfl, o2 := h.s3.s2.o2.mono (Nat.zero_le _), o3 := h.s3.s2.o3.mono (Nat.zero_le _), r9 := h.s3.r9, r14 := h.s3.r14, m1 := h.s3.m1, m2 := h.s3.m2, m3 := h.m3, hp := ?_, hl := ?_, hg := ?_, hc := ?_ }
  · intro i hi
    have := h.s3.q1 _ (h6 i)
    rw [aorS_mod] at this
    unfold PdOf
    by_cases hk : I.ka i % 6 < I.L1
    · rw [if_pos (by have := h6 i; omega)] at this
      rw [this, if_pos hk]
      exact ⟨rfl, hm.k1 _ hk⟩
    · rw [if_neg (by omega)] at this
      rw [this, if_neg hk]
      exact ⟨rfl, by omega⟩
  · intro i hi
    have := h.s3.q2 _ (h6 i)
    rw [aorS_mod] at this
    unfold StOf
    by_cases hk : I.ka i % 6 < I.L2
    · obtain ⟨a, ha⟩ := this.1 (by have := h6 i; omega)
      refine ⟨a, _, _, by rw [ha]; rfl, ?_⟩
      by_cases h0 : I.bd (I.ka i % 6) % 3 = 0
      · rw [if_pos h0, if_neg (fun h => h.2 h0)]
      · rw [if_neg h0, if_pos ⟨hk, h0⟩]
    · refine ⟨none, 0, 0, by rw [this.2 (by omega)]; rfl, ?_⟩
      rw [if_pos rfl, if_neg (fun h => hk h.1)]
  · intro i hi
    have := h.q3 _ (h6 i)
    unfold GOf
    cases hl : lastc I.kc (I.ka i % 6) I.L3 with
    | none =>
      rw [hl] at this
      have h2 : f3 (aorS (I.ka i % 6)) = none := this
      rw [aorS_mod] at h2
      exact h2
    | some j =>
      rw [hl] at this
      obtain ⟨bv, h1, h2⟩ := this
      rw [aorS_mod] at h1
      show f3 (aorS (I.ka i)) = some _
      rw [h1]
      rfl
  · intro i hi c hG
    have := h.q3 _ (h6 i)
    unfold GOf at hG
    cases hl : lastc I.kc (I.ka i % 6) I.L3 with
    | none => rw [hl] at hG; cases hG
    | some j =>
      rw [hl] at hG this
      obtain ⟨bv, h1, h2⟩ := this
      rw [aorS_mod] at h1
      injection hG with hG
      subst hG
      have hjl := (lastc_lt hl).1
      refine ⟨hn j hjl, fun k hk => hm.kb j hjl k hk, ?_⟩
      show wr.ownsRow 0 86 15 ((f3 (aorS (I.ka i))).getD (.slice none 0 0)) (I.n j) _
      rw [h1]
      exact h2.mono (Nat.zero_le _)

/-- What stands behind partialState. -/
structure St5 (I : In) (N : Int) (w : World) (T D C V P : Nat) (rv wv : Value) (f1 f2 f3 : ByteArray → Option Value) (da : Option Addr) (dc : Nat) (wr : World) : Prop where
  s4 : St4 I N w T D C I.L3 rv wv f1 f2 f3 wr
  kV : Blk wr V (dc5 (.slice da P dc)) 93
  rg : ∃ xs, wr.ownsRow 0 98 4 (.slice da P dc) P xs ∧ RegsOk (GOf I f3) I.Wr (PdOf I) (StOf I) N 0 wr (Value.slice da P dc).ownBlock I.L0 P xs
  nl : P = 0 → Value.slice da P dc = .slice none 0 0
theorem St5.kept {I : In} {N : Int} {w : World} {T D C V P : Nat} {rv wv : Value} {f1 f2 f3 : ByteArray → Option Value} {da : Option Addr} {dc : Nat} {wr wr' : World} (h : St5 I N w T D C V P rv wv f1 f2 f3 da dc wr) (hb : Below wr.heap.size wr wr') : St5 I N w T D C V P rv wv f1 f2 f3 da dc wr' := by
  obtain ⟨xs, h1, h2⟩ := h.rg
  exact { s4 := h.s4.kept hb, kV := h.kV.kept hb, rg := ⟨xs, own_kept h1 hb, h2.kept hb⟩, nl := h.nl }

/-- The registration of identity i, where something changed. -/
theorem St5.reg {I : In} {N : Int} {w : World} {T D C V P : Nat} {rv wv : Value} {f1 f2 f3 : ByteArray → Option Value} {da : Option Addr} {dc : Nat} {wr : World} (h : St5 I N w T D C V P rv wv f1 f2 f3 da dc wr) {i j : Nat} (hi : i < I.L0) (hl : lastc I.kc (I.ka i % 6) I.L3 = some j) :
    ∃ gd ca cc' gc, da = some ⟨gd, 0, none⟩ ∧ cnt (GOf I f3) i < P ∧ (∀ t u, (rc4 (I.Wr i) (regId (PdOf I i)) (StOf I i) (.slice ca (I.n j) cc')).toList[t]? = some u → wr.cell? ⟨gd, cnt (GOf I f3) i * 4 + t, none⟩ = some u) ∧
      Idx 96 (.slice ca (I.n j) cc') (I.n j) gc (fun k => k * 5) ∧ At wr (I.n j) gc (fun k => k * 5) (fun k => ((I.Bb j k).contact N).toList) ∧ (ca = none ↔ I.n j = 0) := by
  obtain ⟨xs, ho, hR⟩ := h.rg
  have hG : GOf I f3 i = some ⟨I.n j, I.Bb j, (f3 (aorS (I.ka i))).getD (.slice none 0 0)⟩ := by unfold GOf; rw [hl]
  obtain ⟨cv, h1, h2, h3, h4⟩ := RegsOk.at hG _ _ _ hR hi
  obtain ⟨ca, cc', rfl⟩ := own_form h3
  obtain ⟨a', c', gc, e, ix, hat, hn, _⟩ := own_view Ybad.underlying96 Ybad.sizeOf102 (size := 5) (fun i => rfl) h3
  obtain ⟨hl2, ⟨e1, e2⟩ | ⟨gd, cap, cur, e1, q1, q2, q3, q4, q5, q6⟩⟩ := ho
  · omega
  · injection e1 with e2 e3 e4
    refine ⟨gd, ca, cc', gc, e2, h2, fun t u hu => ?_, ix, hat, ?_, fun h0 => ?_⟩
    · have := h1 t u hu
      rw [← q6, List.getElem?_take] at this
      split at this
      · simp only [World.cell?, q2]
        simpa using this
      · cases this
    · intro h0
      subst h0
      injection e with e5
      exact hn e5.symm
    · have := h4 h0
      injection this
theorem St5.cntP {I : In} {N : Int} {w : World} {T D C V P : Nat} {rv wv : Value} {f1 f2 f3 : ByteArray → Option Value} {da : Option Addr} {dc : Nat} {wr : World} (h : St5 I N w T D C V P rv wv f1 f2 f3 da dc wr) : P = cnt (GOf I f3) I.L0 := by
  obtain ⟨xs, ho, hR⟩ := h.rg
  exact (RegsOk.count _ _ _ hR).1
theorem St5.nilP {I : In} {N : Int} {w : World} {T D C V P : Nat} {rv wv : Value} {f1 f2 f3 : ByteArray → Option Value} {da : Option Addr} {dc : Nat} {wr : World} (h : St5 I N w T D C V P rv wv f1 f2 f3 da dc wr) : da = none ↔ P = 0 := by
  refine ⟨fun h0 => ?_, fun h0 => ?_⟩
  · subst h0
    obtain ⟨xs, ho, hR⟩ := h.rg
    obtain ⟨_, ⟨e1, e2⟩ | ⟨gd, cap, cur, e1, _⟩⟩ := ho
    · exact e2
    · injection e1 with e2; cases e2
  · have := h.nl h0
    injection this
theorem eql91 (w : World) (a : Option Addr) (n c n' c' : Nat) : (binOp .eql 91 (.slice a n c) (.slice none n' c')).run Ybad.prog w = .ok (.bool a.isNone) w := Lib.run_eql_slice_nil w 91 98 a n c n' c' Ybad.underlying91
theorem eql96 (w : World) (a : Option Addr) (n c n' c' : Nat) : (binOp .eql 96 (.slice a n c) (.slice none n' c')).run Ybad.prog w = .ok (.bool a.isNone) w := Lib.run_eql_slice_nil w 96 102 a n c n' c' Ybad.underlying96
theorem isNone_eq {a : Option Addr} {n : Nat} (h : a = none ↔ n = 0) : (!(a.isNone == ((n : Int) == 0))) = false := by
  cases a with
  | none => simp [h.1 rfl]
  | some x =>
    have : ¬ n = 0 := fun e => by cases h.2 e
    simp; omega
theorem cnt_step {I : In} {f3 : ByteArray → Option Value} {i : Nat} : cnt (GOf I f3) (i + 1) = if (lastc I.kc (I.ka i % 6) I.L3).isSome then cnt (GOf I f3) i + 1 else cnt (GOf I f3) i := by
  cases hl : lastc I.kc (I.ka i % 6) I.L3 with
  | none =>
    have hG : GOf I f3 i = none := by unfold GOf; rw [hl]
    simp only [cnt, hG]
    rfl
  | some j =>
    have hG : GOf I f3 i = some ⟨I.n j, I.Bb j, (f3 (aorS (I.ka i))).getD (.slice none 0 0)⟩ := by unfold GOf; rw [hl]
    simp only [cnt, hG]
    rfl
end Go.Proofs.YbulkeeoiDoor

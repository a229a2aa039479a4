import Derived.Test.YbulkeeoiDoorRegs
namespace Go.Proofs.YbulkeeoiDoor
open Go.RowKit Go.Sort
set_option linter.unusedVariables false

/-- What partialState reads. -/
structure Env (w : World) (R U M1 M2 M3 : Nat) (rv wv : Value) (L : Nat) (A Wr : Nat → ByteArray) (f1 f2 f3 : ByteArray → Option Value) (Pd : Nat → Nat) (St : Nat → Int) (G : Nat → Option Chg) : Prop where
  tab : Lib.TabIs Ybad.prog w Ybad.powName .u64 Lib.pow10Tab
  u2 : w.cell? ⟨U, 2, none⟩ = some rv
  u3 : w.cell? ⟨U, 3, none⟩ = some wv
  o2 : w.ownsRow 0 9 1 rv L (rows (fun i => [.string (A i)]) L)
  o3 : w.ownsRow 0 9 1 wv L (rows (fun i => [.string (Wr i)]) L)
  r9 : w.cell? ⟨R, 9, none⟩ = some (.map (some M1))
  r14 : w.cell? ⟨R, 14, none⟩ = some (.map (some M2))
  m1 : MapAt w M1 f1
  m2 : MapAt w M2 f2
  m3 : MapAt w M3 f3
  hp : ∀ i, i < L → (f1 (A i)).getD (.agg #[.int .u64 0, .slice none 0 0]) = .agg #[.int .u64 (Pd i : Int), .slice none 0 0] ∧ Pd i < 18446744073709551616
  hl : ∀ i, i < L → ∃ a2 l2 k2, (f2 (A i)).getD (.slice none 0 0) = .slice a2 l2 k2 ∧ St i = if l2 = 0 then 2 else 1
  hg : ∀ i, i < L → f3 (A i) = (G i).map Chg.bv
  hc : ∀ i, i < L → ∀ c, G i = some c → c.n ≤ 1048576 ∧ (∀ k, k < c.n → (c.B k).ok) ∧ w.ownsRow 0 86 15 c.bv c.n (rows (fun k => (c.B k).cells.toList) c.n)

theorem Env.kept {w w' : World} {R U M1 M2 M3 : Nat} {rv wv : Value} {L : Nat} {A Wr : Nat → ByteArray} {f1 f2 f3 : ByteArray → Option Value} {Pd : Nat → Nat} {St : Nat → Int} {G : Nat → Option Chg} (h : Env w R U M1 M2 M3 rv wv L A Wr f1 f2 f3 Pd St G) (hb : Below w.heap.size w w') : Env w' R U M1 M2 M3 rv wv L A Wr f1 f2 f3 Pd St G where
  tab := tab_below h.tab hb
  u2 := cell_kept h.u2 hb
  u3 := cell_kept h.u3 hb
  o2 := own_kept h.o2 hb
  o3 := own_kept h.o3 hb
  r9 := cell_kept h.r9 hb
  r14 := cell_kept h.r14 hb
  m1 := h.m1.kept hb
  m2 := h.m2.kept hb
  m3 := h.m3.kept hb
  hp := h.hp
  hl := h.hl
  hg := h.hg
  hc := fun i hi c hG => ⟨(h.hc i hi c hG).1, (h.hc i hi c hG).2.1, own_kept (h.hc i hi c hG).2.2 hb⟩

theorem own_some {w : World} {base : Nat} {e : TypeId} {size : Nat} {v : Value} {n : Nat} {F : Nat → List Value} (hF : ∀ i, (F i).length = size) (h : w.ownsRow base e size v n (rows F n)) {i : Nat} (hi : i < n) :
    ∃ g c, v = .slice (some ⟨g, 0, none⟩) n c ∧ ∀ k, k < n → ∀ t u, (F k)[t]? = some u → w.cell? ⟨g, k * size + t, none⟩ = some u := by
  obtain ⟨hl, h | ⟨g, cap, cur, rfl, h1, h2, h3, h4, h5, h6⟩⟩ := h
  · omega
  · refine ⟨g, cap, rfl, fun k hk t u hu => ?_⟩
    have htl : t < size := by rw [← hF k]; exact (List.getElem?_eq_some_iff.1 hu).1
    have e1 := rows_get hF n k t hk htl
    rw [hu, ← h6, List.getElem?_take] at e1
    split at e1
    · simp only [World.cell?, h2]
      simpa using e1
    · cases e1

/-- registrationInfo, in the words of Env. -/
theorem regEnv {w : World} {R U M1 M2 M3 : Nat} {rv wv : Value} {L : Nat} {A Wr : Nat → ByteArray} {f1 f2 f3 : ByteArray → Option Value} {Pd : Nat → Nat} {St : Nat → Int} {G : Nat → Option Chg} (h : Env w R U M1 M2 M3 rv wv L A Wr f1 f2 f3 Pd St G)
    (N : Int) (hN : -1125899906842624 < N ∧ N < 1125899906842624) (i : Nat) (hi : i < L) (c : Chg) (hG : G i = some c) :
    Calls Ybad.prog 16 #[.pointer (some ⟨R, 0, none⟩), .pointer (some ⟨U, 0, none⟩), .int .i64 (i : Int), c.bv, .int .i64 2, .agg (tc (tS N) (tN N))] w fun e w' =>
      ∃ ca cc', e = .returned (.agg (rc4 (Wr i) (regId (Pd i)) (St i) (.slice ca c.n cc'))) ∧ Hid (Below w.heap.size w w' ∧ w'.ownsRow w.heap.size 102 5 (.slice ca c.n cc') c.n (rows (fun k => ((c.B k).contact N).toList) c.n) ∧ (c.n = 0 → Value.slice ca c.n cc' = .slice none 0 0)) := by
  obtain ⟨gr, cr, e1, k1⟩ := own_some (F := fun i => [Value.string (A i)]) (size := 1) (fun _ => rfl) h.o2 hi
  obtain ⟨gw, cw, e2, k2⟩ := own_some (F := fun i => [Value.string (Wr i)]) (size := 1) (fun _ => rfl) h.o3 hi
  obtain ⟨a2, l2, q2, hl1, hl2⟩ := h.hl i hi
  obtain ⟨hc1, hc2, hc3⟩ := h.hc i hi c hG
  have t1 := k1 i hi 0 _ rfl
  have t2 := k2 i hi 0 _ rfl
  rw [Nat.mul_one, Nat.add_zero] at t1 t2
  refine (reg16 R U M1 M2 gr gw L cr L cw i (A i) (Wr i) f1 f2 (Pd i) a2 l2 q2 c.bv c.n c.B N (St i) w hl2 hi hi hc1 hc2 hN (h.hp i hi).2 h.tab (by rw [h.u2, e1]) (by rw [h.u3, e2]) t1 t2 h.r9 h.r14 h.m1 h.m2 (h.hp i hi).1 hl1 hc3).mono ?_
  rintro e w' ⟨cv, rfl, h1, h2, h3⟩
  obtain ⟨ca, cc', rfl⟩ := own_form h2
  exact ⟨ca, cc', rfl, h1, h2, h3⟩

theorem RegsOk.base {G : Nat → Option Chg} {Wr : Nat → ByteArray} {Pd : Nat → Nat} {St : Nat → Int} {N : Int} {base base' : Nat} {w : World} {d : Option Nat} : ∀ {i p : Nat} {xs : List Value}, RegsOk G Wr Pd St N base w d i p xs → base' ≤ base → RegsOk G Wr Pd St N base' w d i p xs
  | 0, p, xs, h, _ => h
  | i + 1, p, xs, h, hb => by
    cases hG : G i with
    | none =>
      simp only [RegsOk, hG] at h ⊢
      exact RegsOk.base h hb
    | some c =>
      simp only [RegsOk, hG] at h ⊢
      obtain ⟨p', xs', cv, h1, h2, h3, h4, h5, h6⟩ := h
      exact ⟨p', xs', cv, h1, h2, RegsOk.base h3 hb, h4.mono hb, h5, h6⟩
theorem RegsOk.appended {G : Nat → Option Chg} {Wr : Nat → ByteArray} {Pd : Nat → Nat} {St : Nat → Int} {N : Int} {base : Nat} {w w' : World} {d : Option Nat} {g : Nat} {i p : Nat} {xs : List Value} (h : RegsOk G Wr Pd St N base w d i p xs) (hg : w.grownBy w' d) (hat : d = some g ∨ g = w.heap.size) : RegsOk G Wr Pd St N base w' (some g) i p xs :=
  RegsOk.turn (fun cv n xs ho hd => ⟨ho.kept hg hd, by
    rcases hat with h' | h'
    · rw [← h']; exact hd
    · cases hc : cv.ownBlock with
      | none => exact Or.inl rfl
      | some b => exact Or.inr (fun e => by have := (ho.lt b hc).2; injection e with e; omega)⟩) i p xs h

abbrev dc5 (dv : Value) : Array Value := #[.string { data := #[] }, .string { data := #[] }, .int .u64 0, .int .i64 1, dv]
abbrev zd5 : Array Value := #[.string { data := #[] }, .string { data := #[] }, .int .u64 0, .int .i64 0, .slice none 0 0]

set_option maxRecDepth 100000 in
theorem results8 (b : Nat) (tm : Array Value) (wF : World) (v0 v1 v2 v3 v4 : Value) (h4 : tm[8]?.getD undef = .pointer (some ⟨b, 0, none⟩)) (hB : Blk wF b #[v0, v1, v2, v3, v4] 93) :
    (results Ybad.f8 tm).run Ybad.prog wF = .ok (.agg #[v0, v1, v2, v3, v4]) wF := by
  have c0 := hB.cell 0 _ rfl
  have c1 := hB.cell 1 _ rfl
  have c2 := hB.cell 2 _ rfl
  have c3 := hB.cell 3 _ rfl
  have c4 := hB.cell 4 _ rfl
  simp [results, Ybad.results8, go_sem, h4] at *
  simp [c0, c1, c2, c3, c4, go_sem]

set_option maxHeartbeats 4000000 in
set_option maxRecDepth 100000 in
theorem part8 (w : World) (R U M1 M2 M3 : Nat) (rv wv : Value) (L : Nat) (A Wr : Nat → ByteArray) (f1 f2 f3 : ByteArray → Option Value) (Pd : Nat → Nat) (St : Nat → Int) (G : Nat → Option Chg) (E : Hid (Env w R U M1 M2 M3 rv wv L A Wr f1 f2 f3 Pd St G))
    (N : Int) (hN : Hid (-1125899906842624 < N ∧ N < 1125899906842624)) (hL : L ≤ 1048576) :
    Calls Ybad.prog 8 #[.pointer (some ⟨R, 0, none⟩), .pointer (some ⟨U, 0, none⟩), .map (some M3), .agg (tc (tS N) (tN N))] w fun e w' =>
      ∃ da p dc xs, e = .returned (.agg (dc5 (.slice da p dc))) ∧ Hid (Below w.heap.size w w' ∧ w'.ownsRow w.heap.size 98 4 (.slice da p dc) p xs ∧ RegsOk G Wr Pd St N w.heap.size w' (Value.slice da p dc).ownBlock L p xs ∧ (p = 0 → Value.slice da p dc = .slice none 0 0)) := by
  obtain ⟨ra, rc, hrv⟩ := own_form E.out.o2
  subst hrv
  obtain ⟨i0, hi, hz0, hz1, hz2⟩ := info_parts info98
  have F0 : Hid (∀ W0, W0 = ((w.alloc (.cells (tc (tS N) (tN N)) 33)).alloc (.cells zd5 93)).alloc (.cells (dc5 (.slice none 0 0)) 93) → W0.heap.size = w.heap.size + 3 ∧ Below w.heap.size w W0 ∧ Blk W0 w.heap.size (tc (tS N) (tN N)) 33 ∧ Blk W0 (w.heap.size + 1) zd5 93 ∧ Blk W0 (w.heap.size + 1 + 1) (dc5 (.slice none 0 0)) 93) := by
    rintro W0 rfl
    refine ⟨by simp, ((((Below.refl _ w).alloc (Nat.le_refl _) _).alloc (by simp) _).alloc (by simp; omega) _), ((Blk.made w _ _).alloc _).alloc _, ?_, ?_⟩
    · have := Blk.made (w.alloc (.cells (tc (tS N) (tN N)) 33)) zd5 93
      simp only [World.size_alloc] at this
      exact this.alloc _
    · have := Blk.made ((w.alloc (.cells (tc (tS N) (tN N)) 33)).alloc (.cells zd5 93)) (dc5 (.slice none 0 0)) 93
      simp only [World.size_alloc] at this
      exact this
  go_enter Ybad.func8, Ybad.ntmps8
  go_upto_region 2 with fail
  generalize hW0 : ((w.alloc (.cells (tc (tS N) (tN N)) 33)).alloc (.cells zd5 93)).alloc (.cells (dc5 (.slice none 0 0)) 93) = W0
  obtain ⟨hsz, hbw, H7, H8, H9⟩ := F0.out W0 hW0.symm
  have HSZ := hide hsz
  have HB := hide hbw
  have HH7 := hide H7
  have HH8 := hide H8
  have HH9 := hide H9
  have q2 := cell_kept E.out.u2 hbw
  clear F0 hW0 hsz hbw H7 H8 H9
  go_upto_block 0 with fail
  clear q2
  go_cut [] (fun we => ∃ da p dc xs, Below w.heap.size w we ∧ Blk we (w.heap.size + 1) zd5 93 ∧ Blk we (w.heap.size + 1 + 1) (dc5 (.slice da p dc)) 93 ∧ we.ownsRow (w.heap.size + 3) 98 4 (.slice da p dc) p xs ∧ RegsOk G Wr Pd St N (w.heap.size + 3) we (Value.slice da p dc).ownBlock L p xs ∧ (p = 0 → Value.slice da p dc = .slice none 0 0))
  case first =>
    go_wp2_with fail
    go_loopg [20] L (fun g s20 wr => ∃ i : Nat, i ≤ L ∧ L - i ≤ g ∧ s20 = .int .i64 i ∧ ∃ da p dc xs, Below w.heap.size w wr ∧ w.heap.size + 3 ≤ wr.heap.size ∧ Blk wr w.heap.size (tc (tS N) (tN N)) 33 ∧ Blk wr (w.heap.size + 1) zd5 93 ∧ Blk wr (w.heap.size + 1 + 1) (dc5 (.slice da p dc)) 93 ∧ wr.ownsRow (w.heap.size + 3) 98 4 (.slice da p dc) p xs ∧ RegsOk G Wr Pd St N (w.heap.size + 3) wr (Value.slice da p dc).ownBlock i p xs ∧ (p = 0 → Value.slice da p dc = .slice none 0 0))
    case atStart => exact ⟨0, Nat.zero_le _, by omega, rfl, none, 0, 0, [], HB.out, by have := HSZ.out; omega, HH7.out, HH8.out, HH9.out, World.ownsRow_nil _ _ _ _, ⟨rfl, rfl⟩, fun _ => rfl⟩
    case round =>
      obtain ⟨i, hiL, hg, rfl, da, p, dc, xs, e1, e2, e3, e4, e5, e6, e7, e8⟩ := hrel
      by_cases hlt : i < L
      · obtain ⟨gr, cr, hr1, hr2⟩ := own_some (F := fun i => [Value.string (A i)]) (size := 1) (fun _ => rfl) (E.out.kept e1).o2 hlt
        injection hr1 with hr3 hr4 hr5
        subst hr3
        subst hr5
        clear hr4
        have ca := hr2 i hlt 0 _ rfl
        rw [Nat.mul_one, Nat.add_zero] at ca
        have lk := look49_ok (E.out.kept e1).m3 (A i)
        rw [E.out.hg i hlt] at lk
        have H1 := hide e1
        have H2 := hide e2
        have H3 := hide e3
        have H4 := hide e4
        have H5 := hide e5
        have H6 := hide e6
        have H7 := hide e7
        have H8 := hide e8
        have hi0 : (0 : Int) ≤ (i : Int) := Int.natCast_nonneg _
        have hi1' : (i : Int) < (L : Int) := by omega
        clear e1 e2 e3 e4 e5 e6 e7 e8 hr2
        cases hG : G i with
        | none =>
          rw [hG] at lk
          have lk' : ∀ wx, wx = wr → Sem.run Ybad.prog (Instr.lookup 49 (.map (some M3)) (.string (A i)) true) wr = .ok (.tuple #[.slice none 0 0, .bool false]) wr := fun _ _ => lk
          have HG := hide hG
          clear hG
          go_wp2
          go_roundg (L - (i + 1))
          case measure => omega
          case rel => exact ⟨i + 1, by omega, by omega, by go_num, da, p, dc, xs, H1.out, H2.out, H3.out, H4.out, H5.out, H6.out, by simp only [RegsOk, HG.out]; exact H7.out, H8.out⟩
        | some c =>
          rw [hG] at lk
          have HG := hide hG
          clear hG
          have lk' : Sem.run Ybad.prog (Instr.lookup 49 (.map (some M3)) (.string (A i)) true) wr = .ok (.tuple #[c.bv, .bool true]) wr := lk
          have K16 : Hid (Calls Ybad.prog 16 #[.pointer (some ⟨R, 0, none⟩), .pointer (some ⟨U, 0, none⟩), .int .i64 (i : Int), c.bv, .int .i64 2, .agg (tc (tS N) (tN N))] wr.drew fun e w' =>
              ∃ ca cc', e = .returned (.agg (rc4 (Wr i) (regId (Pd i)) (St i) (.slice ca c.n cc'))) ∧ w'.cell? ⟨w.heap.size + 1 + 1, 4, none⟩ = some (.slice da p dc) ∧ (∀ o, (w'.alloc o).cell? ⟨w.heap.size + 1 + 1, 4, none⟩ = some (.slice da p dc)) ∧ Hid (Below wr.heap.size wr w' ∧ w'.ownsRow wr.heap.size 102 5 (.slice ca c.n cc') c.n (rows (fun k => ((c.B k).contact N).toList) c.n) ∧ (c.n = 0 → Value.slice ca c.n cc' = .slice none 0 0))) := by
            refine (regEnv ((E.out.kept H1.out).kept (Below.refl _ wr).drew) N hN.out i hlt c HG.out).mono ?_
            rintro e w' ⟨ca, cc', rfl, hf⟩
            obtain ⟨h1, h2, h3⟩ := hf.out
            have hb2 : Below wr.heap.size wr w' := (Below.refl _ wr).drew.trans h1
            exact ⟨ca, cc', rfl, (H5.out.kept hb2).cell 4 _ rfl, fun o => ((H5.out.kept hb2).alloc o).cell 4 _ rfl, hb2, h2, h3⟩
          have hpc := hide (RegsOk.count _ _ _ H7.out)
          have hpi : p ≤ i := by have := hpc.out.1; have := cnt_le G i; omega
          have c4 := H5.out.cell 4 _ rfl
          have s0 := H3.out.cell 0 _ rfl
          have s1 := H3.out.cell 1 _ rfl
          have s2 := H3.out.cell 2 _ rfl
          clear lk
          go_upto_block 1 with fail
          go_cut [] (fun wf => ∃ da' dc' xs', Below w.heap.size w wf ∧ w.heap.size + 3 ≤ wf.heap.size ∧ Blk wf w.heap.size (tc (tS N) (tN N)) 33 ∧ Blk wf (w.heap.size + 1) zd5 93 ∧ Blk wf (w.heap.size + 1 + 1) (dc5 (.slice da' (p + 1) dc')) 93 ∧ wf.ownsRow (w.heap.size + 3) 98 4 (.slice da' (p + 1) dc') (p + 1) xs' ∧ RegsOk G Wr Pd St N (w.heap.size + 3) wf (Value.slice da' (p + 1) dc').ownBlock (i + 1) (p + 1) xs')
          case first =>
            go_upto_region 7 with fail
            go_region_law (first
              | (go_simp; go_at_call 16; refine K16.out.mono ?_; rintro e w5 ⟨ca, cc', rfl, hc5, hc6, hb5⟩; dsimp only)
              | (refine step_append_lies _ (by rfl) _ _ _ (by rfl) (w.heap.size + 3) 98 i0 _ 4 64 Ybad.underlying91 hi hz0 hz1 hz2 rfl (by decide) (.slice da p dc) p xs (by rfl) ((own_kept H6.out hb5.out.1).alloc _) ⟨w5.heap.size, 0, none⟩ 1 1 (rc4 (Wr i) (regId (Pd i)) (St i) (.slice ca c.n cc')).toList (by rfl) (by rfl) (World.news_of_block (cs := rc4 (Wr i) (regId (Pd i)) (St i) (.slice ca c.n cc')) (t := 98) (fr := (0, 0)) (heap_alloc_new w5 _)) (by simp [Value.oneCell']) (by omega) (by unfold maxLen; omega) (by omega) (by have := hb5.out.1.size; have := H2.out; simp; omega) (w5.heap.size + 1) (by simp) ?_; intro gg cap' w7 hown7 hgrow7 hat7 hlt7; have hk7 : Hid (Blk w7 (w.heap.size + 1 + 1) (dc5 (.slice da p dc)) 93) := ((H5.out.kept hb5.out.1).alloc _).grown hgrow7 (own_ne H6.out (by omega)); have hc7 := hk7.out.cell 4 _ rfl; have hf7 := hk7.out.frozen 4))
            all_goals
              clear lk' c4 s0 s1 s2
              go_wp2
              go_meet
            all_goals
              obtain ⟨hq1, hq2, hq3⟩ := hb5.out
              have hp5 := H1.out.trans (hq1.mono H1.out.size)
              have hs5 := hq1.size
              have hs6 := H2.out
              have hd6 : ∀ j, (Value.slice da p dc).ownBlock = some j → w.heap.size + 3 ≤ j ∧ j < wr.heap.size := H6.out.lt
              have hcb : ∀ j, (Value.slice ca c.n cc').ownBlock = some j → wr.heap.size ≤ j ∧ j < w5.heap.size := hq2.lt
              refine ⟨some ⟨gg, 0, none⟩, cap', _, ((hp5.alloc hp5.size _).grown hgrow7 (by simp; omega) (fun j hj => by have := (hd6 j hj).1; omega)).setCell (by show w.heap.size ≤ w.heap.size + 1 + 1; omega) _, ?_, ?_, ?_, hk7.out.set 4 _, own_set hown7 (by show w.heap.size + 1 + 1 < w.heap.size + 3; omega) _, ?_⟩
              · have := hgrow7.size
                simp at this ⊢
                omega
              · exact (((H3.out.kept hq1).alloc _).grown hgrow7 (own_ne H6.out (by omega))).other _ _ _ (by omega)
              · exact (((H4.out.kept hq1).alloc _).grown hgrow7 (own_ne H6.out (by omega))).other _ _ _ (by omega)
              · simp only [RegsOk, HG.out]
                refine ⟨p, xs, .slice ca c.n cc', rfl, rfl, ?_, ?_, hq3, ?_⟩
                · exact (RegsOk.appended ((H7.out.kept hq1).kept ((Below.refl _ w5).alloc (Nat.le_refl _) _)) hgrow7 (by simpa using hat7)).set (by show w.heap.size + 1 + 1 < w.heap.size + 3; omega) _
                · refine own_set (World.ownsRow.kept ((hq2.mono (by omega)).alloc _) hgrow7 ?_) (by show w.heap.size + 1 + 1 < w.heap.size + 3; omega) _
                  cases hcv : (Value.slice ca c.n cc').ownBlock with
                  | none => exact Or.inl rfl
                  | some b => exact Or.inr (fun e => by have := hcb b hcv; have := hd6 b e.symm; omega)
                · cases hcv : (Value.slice ca c.n cc').ownBlock with
                  | none => exact Or.inl rfl
                  | some b =>
                    refine Or.inr (fun e => ?_)
                    have h1 := hcb b hcv
                    have h2 : b = gg := by injection e
                    rcases hat7 with h3 | h3
                    · have := hd6 gg h3; omega
                    · omega
          case rest =>
            obtain ⟨da', dc', xs', e1, e2, e3, e4, e5, e6, e7⟩ := hcut
            have E1 := hide e1
            have E2 := hide e2
            have E3 := hide e3
            have E4 := hide e4
            have E5 := hide e5
            have E6 := hide e6
            have E7 := hide e7
            clear e1 e2 e3 e4 e5 e6 e7 lk' c4 s0 s1 s2 ca
            go_wp2
            go_roundg (L - (i + 1))
            case measure => omega
            case rel => exact ⟨i + 1, by omega, by omega, by go_num, da', p + 1, dc', xs', E1.out, E2.out, E3.out, E4.out, E5.out, E6.out, E7.out, fun h => by omega⟩
      · have : i = L := by omega
        subst this
        have H1 := hide e1
        have H4 := hide e4
        have H5 := hide e5
        have H6 := hide e6
        have H7 := hide e7
        have H8 := hide e8
        clear e1 e2 e3 e4 e5 e6 e7 e8
        go_wp2
        go_meet
        case rel => exact ⟨da, p, dc, xs, H1.out, H4.out, H5.out, H6.out, H7.out, H8.out⟩
  case rest =>
    obtain ⟨da, p, dc, xs, e1, e4, e5, e6, e7, e8⟩ := hcut
    have E1 := hide e1
    have E4 := hide e4
    have E6 := hide e6
    have E7 := hide e7
    have E8 := hide e8
    have c0 := e5.cell 0 _ rfl
    have c1 := e5.cell 1 _ rfl
    have c2 := e5.cell 2 _ rfl
    have c3 := e5.cell 3 _ rfl
    have c4 := e5.cell 4 _ rfl
    have d0 := e4.cell 0 _ rfl
    have d1 := e4.cell 1 _ rfl
    have d2 := e4.cell 2 _ rfl
    have d3 := e4.cell 3 _ rfl
    have d4 := e4.cell 4 _ rfl
    have f0 := e4.frozen 0
    have f1 := e4.frozen 1
    have f2 := e4.frozen 2
    have f3 := e4.frozen 3
    have f4 := e4.frozen 4
    clear e1 e4 e5 e6 e7 e8
    go_wp2
    refine bodyPost_ret (v := .agg (dc5 (.slice da p dc))) ?_ rfl ⟨da, p, dc, xs, rfl, ?_, ?_, ?_, E8.out⟩
    · exact results8 _ _ _ _ _ _ _ _ rfl (((((E4.out.set 0 _).set 1 _).set 2 _).set 3 _).set 4 _)
    · exact ((((E1.out.setCell (by show w.heap.size ≤ w.heap.size + 1; omega) _).setCell (by show w.heap.size ≤ w.heap.size + 1; omega) _).setCell (by show w.heap.size ≤ w.heap.size + 1; omega) _).setCell (by show w.heap.size ≤ w.heap.size + 1; omega) _).setCell (by show w.heap.size ≤ w.heap.size + 1; omega) _
    · have hb : w.heap.size + 1 < w.heap.size + 3 := by omega
      refine World.ownsRow.mono ?_ (show w.heap.size ≤ w.heap.size + 3 by omega)
      have o1 := own_set E6.out (a := ⟨w.heap.size + 1, 0, none⟩) hb (.string { data := #[] })
      have o2 := own_set o1 (a := ⟨w.heap.size + 1, 1, none⟩) hb (.string { data := #[] })
      have o3 := own_set o2 (a := ⟨w.heap.size + 1, 2, none⟩) hb (.int .u64 0)
      have o4 := own_set o3 (a := ⟨w.heap.size + 1, 3, none⟩) hb (.int .i64 1)
      exact own_set o4 (a := ⟨w.heap.size + 1, 4, none⟩) hb (.slice da p dc)
    · have hb : w.heap.size + 1 < w.heap.size + 3 := by omega
      have o1 := RegsOk.set E7.out (a := ⟨w.heap.size + 1, 0, none⟩) hb (.string { data := #[] })
      have o2 := RegsOk.set o1 (a := ⟨w.heap.size + 1, 1, none⟩) hb (.string { data := #[] })
      have o3 := RegsOk.set o2 (a := ⟨w.heap.size + 1, 2, none⟩) hb (.int .u64 0)
      have o4 := RegsOk.set o3 (a := ⟨w.heap.size + 1, 3, none⟩) hb (.int .i64 1)
      have o5 := RegsOk.set o4 (a := ⟨w.heap.size + 1, 4, none⟩) hb (.slice da p dc)
      exact RegsOk.base o5 (by omega)
end Go.Proofs.YbulkeeoiDoor

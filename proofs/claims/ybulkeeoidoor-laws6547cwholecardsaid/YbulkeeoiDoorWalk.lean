import Derived.Test.YbulkeeoiDoorL7
import Derived.Test.YbulkeeoiDoorL10
namespace Go.Proofs.YbulkeeoiDoor
open Go.RowKit Go.Sort
set_option linter.unusedVariables false

set_option maxHeartbeats 8000000 in
set_option maxRecDepth 100000 in
theorem walk3 (I : In) (p : Pl) (now : Int) (w : World) (M : Hid (Mem I p w)) (hnow : Hid (-9223372036854775808 ≤ now ∧ now ≤ 9223372036854775807))
    (b0 : I.L0 ≤ 1048576) (b1 : I.L1 ≤ 1048576) (b2 : I.L2 ≤ 1048576) (b3 : I.L3 ≤ 1048576) :
    Calls Ybad.prog 3 #[.slice p.a0 I.L0 p.c0, .slice p.a1 I.L1 p.c1, .slice p.a2 I.L2 p.c2, .slice p.a3 I.L3 p.c3, .int .i64 now] w fun e w' => e = .returned (.bool true) ∧ Below w.heap.size w w' := by
  have d0 : decide ((1048576 : Int) < (I.L0 : Int)) = false := by simp; omega
  have d1 : decide ((1048576 : Int) < (I.L1 : Int)) = false := by simp; omega
  have d2 : decide ((1048576 : Int) < (I.L2 : Int)) = false := by simp; omega
  have d3 : decide ((1048576 : Int) < (I.L3 : Int)) = false := by simp; omega
  have b3' : (I.L3 : Int) ≤ 1048576 := by omega
  go_enter Ybad.func3, Ybad.ntmps3
  go_upto_block 0 with fail
  clear d0 d1 d2 d3
  go_cut [11] (fun v11 wc => v11 = .int .i64 (tot I.n I.L3 : Int) ∧ Below w.heap.size w wc)
  case first =>
    go_wp2_with fail
    go_loopg [66, 11] I.L3 (fun g s66 s11 wr => ∃ j : Nat, j ≤ I.L3 ∧ I.L3 - j ≤ g ∧ s66 = .int .i64 j ∧ s11 = .int .i64 (tot I.n j : Int) ∧ Below w.heap.size w wr)
    case atStart => exact ⟨0, Nat.zero_le _, by omega, rfl, rfl, Below.refl _ _⟩
    case round =>
      obtain ⟨j, hj, hg, rfl, rfl, hb⟩ := hrel
      by_cases hlt : j < I.L3
      · have j1 : ∀ wx, Sem.run Ybad.prog (Instr.indexAt 25 (.slice p.a3 I.L3 p.c3) (.int .i64 (j : Int))) wx = .ok (.pointer (some ⟨p.g3, p.o3 + j * 2, none⟩)) wx := M.out.x3 j hlt
        have t3 := (M.out.kept hb).t3 j hlt
        have c0 : wr.cell? ⟨p.g3, p.o3 + j * 2, none⟩ = some (.int .u8 (I.kc j : Int)) := t3 0 _ rfl
        have c1 : wr.cell? ⟨p.g3, p.o3 + j * 2 + 1, none⟩ = some (.slice (p.ab j) (I.n j) (p.cp j)) := t3 1 _ rfl
        have s1 := tot_le M.out.sz j hj
        have s2 := M.out.sz j hlt
        have h1 : (tot I.n j : Int) ≤ 4611686018427387904 := by omega
        have h2 : (I.n j : Int) ≤ 4398046511104 := by omega
        have HB := hide hb
        have HT : Hid (tot I.n (j + 1) = tot I.n j + I.n j) := rfl
        clear hb t3 s1 s2
        go_wp2
        go_roundg (I.L3 - (j + 1))
        case measure => omega
        case rel => exact ⟨j + 1, by omega, by omega, by go_num, by rw [HT.out]; rfl, HB.out.alloc HB.out.size _⟩
      · have : j = I.L3 := by omega
        have HB := hide hb
        clear hb
        subst this
        go_wp2
        go_meet
        case rel => exact ⟨rfl, HB.out⟩
  case rest =>
    obtain ⟨rfl, hb⟩ := hcut
    have HB := hide hb
    clear hb
    by_cases hbig : 1048576 < tot I.n I.L3
    · have dt : decide ((1048576 : Int) < (tot I.n I.L3 : Int)) = true := by simp; omega
      go_wp2
      go_ret
      exact ⟨rfl, HB.out⟩
    · have dt : decide ((1048576 : Int) < (tot I.n I.L3 : Int)) = false := by simp; omega
      have hr := red_bound now
      have K4 : Hid (∀ wx, Calls Ybad.prog 4 #[.int .i64 now] wx fun e w' => e = .returned (.int .i64 (red now)) ∧ w' = wx) := fun wx => ns4 now wx hnow.out
      have K5 : Hid (∀ wx, Calls Ybad.prog 5 #[.agg #[.int .u64 0, .int .i64 0, .pointer none], .int .i64 (red now)] wx fun e w' => e = .returned (.agg (tc (tS (red now)) (tN (red now)))) ∧ Hid (Below wx.heap.size wx w')) := fun wx => add5 0 0 (red now) _ _ wx (by omega) (tN_lt _) ⟨by omega, by omega⟩ ⟨by omega, by omega⟩ (by have := tSN (red now); omega)
      clear hr
      go_upto_region 14 with (first | (go_at_call 4; refine (K4.out _).mono ?_; rintro e w4 ⟨rfl, rfl⟩) | (go_at_call 5; refine (K5.out _).mono ?_; rintro e w5 ⟨rfl, hb5⟩))
      have F1 : Hid (∀ W1, W1 = (w5.alloc (.cells (tc (tS (red now)) (tN (red now))) 33)).alloc (.cells (uc (.slice none 0 0) (.slice none 0 0)) 43) → St2 I (red now) w w5.heap.size 0 0 (.slice none 0 0) (.slice none 0 0) W1) := by
        rintro W1 rfl
        have hb := HB.out.trans (hb5.out.mono HB.out.size)
        have k2 := Blk.made (w5.alloc (.cells (tc (tS (red now)) (tN (red now))) 33)) (uc (.slice none 0 0) (.slice none 0 0)) 43
        simp only [World.size_alloc] at k2
        exact { bel := (hb.alloc hb.size _).alloc (by have := hb.size; simp; omega) _, tw := hb.size, sz := by simp, kT := (Blk.made w5 _ _).alloc _, kU := k2, o2 := World.ownsRow_nil _ _ _ _, o3 := World.ownsRow_nil _ _ _ _, ap := Or.inl rfl }
      generalize hW1 : (w5.alloc (.cells (tc (tS (red now)) (tN (red now))) 33)).alloc (.cells (uc (.slice none 0 0) (.slice none 0 0)) 43) = W1
      have S1 := hide (F1.out W1 hW1.symm)
      clear F1 hW1 dt K4 K5 hb5 HB
      generalize w5.heap.size = T at *
      clear w5
      go_upto_block 2 with fail
      go_cut [] (fun wd => ∃ rv wv, St2 I (red now) w T I.L0 I.L0 rv wv wd)
      case first =>
        obtain ⟨i0, hi, hz0, hz1, hz2⟩ := info_parts info9
        go_wp2_with fail
        go_loopg [87] I.L0 (fun g s87 wr => ∃ i : Nat, i ≤ I.L0 ∧ I.L0 - i ≤ g ∧ s87 = .int .i64 i ∧ ∃ rv wv, Hid (St2 I (red now) w T i i rv wv wr))
        case atStart => exact ⟨0, Nat.zero_le _, by omega, rfl, _, _, S1.out⟩
        case round =>
          obtain ⟨i, hiL, hg, rfl, rv, wv, S2⟩ := hrel
          by_cases hlt : i < I.L0
          · have j1 : ∀ wx, Sem.run Ybad.prog (Instr.indexAt 22 (.slice p.a0 I.L0 p.c0) (.int .i64 (i : Int))) wx = .ok (.pointer (some ⟨p.g0, p.o0 + i * 2, none⟩)) wx := M.out.x0 i hlt
            have t0 := (M.out.kept S2.out.bel).t0 i hlt
            have c0 : wr.cell? ⟨p.g0, p.o0 + i * 2, none⟩ = some (.int .u8 (I.ka i : Int)) := t0 0 _ rfl
            have c1 : wr.cell? ⟨p.g0, p.o0 + i * 2 + 1, none⟩ = some (.string (I.Wr i)) := t0 1 _ rfl
            have K6 : Hid (∀ wx, Calls Ybad.prog 6 #[.int .u8 (I.ka i : Int)] wx fun e w' => e = .returned (.string (aorS (I.ka i))) ∧ w' = wx) := fun wx => aor6 (I.ka i) (M.out.k0 i hlt) wx
            have KB := hide (Blk.made wr #[.int .u8 (I.ka i : Int), .string (I.Wr i)] 45)
            clear t0
            go_upto_block 3 with fail
            go_cut [] (fun wd => ∃ rv' wv', Hid (St2 I (red now) w T (i + 1) (i + 1) rv' wv' wd))
            case first =>
              go_upto_region 17 with fail
              clear j1 c0 c1
              generalize hW2 : wr.alloc (.cells #[.int .u8 (I.ka i : Int), .string (I.Wr i)] 45) = W2 at *
              have S3 : Hid (St2 I (red now) w T i i rv wv W2) := by rw [← hW2]; exact S2.out.alloc _
              have hsz : W2.heap.size = wr.heap.size + 1 := by rw [← hW2]; simp
              have HSZ := hide hsz
              clear hW2 hsz
              go_cut [] (fun wx => ∃ rv', Hid (St2 I (red now) w T (i + 1) i rv' wv wx) ∧ Hid (Blk wx wr.heap.size #[.int .u8 (I.ka i : Int), .string (I.Wr i)] 45))
              case first =>
                have c2 := S3.out.kU.cell 2 _ rfl
                have c2a : ∀ o, (W2.alloc o).cell? ⟨T + 1, 2, none⟩ = some rv := fun o => (S3.out.kU.alloc o).cell 2 _ rfl
                have c0 := KB.out.cell 0 _ rfl
                go_region_law (first
                  | (go_simp; go_at_call 6; refine (K6.out _).mono ?_; rintro e w6 ⟨rfl, rfl⟩; dsimp only)
                  | (refine step_append_lies _ (by rfl) _ _ _ (by rfl) (T + 2) 9 i0 _ 1 16 Ybad.underlying39 hi hz0 hz1 hz2 rfl (by decide) rv i (rows (fun k => [.string (aorS (I.ka k))]) i) (by rfl) ((S3.out.o2.alloc _).drew) ⟨W2.heap.size, 0, none⟩ 1 1 [.string (aorS (I.ka i))] (by rfl) (by rfl) (World.news_of_block (cs := #[.string (aorS (I.ka i))]) (t := 9) (fr := (0, 0)) (heap_alloc_new W2 _)) (by simp [Value.oneCell']) (by omega) (by unfold maxLen; omega) (by omega) (by have := S3.out.sz; simp; omega) (W2.heap.size + 1) (by simp) ?_; intro gg cap' w7 hown7 hgrow7 hat7 hlt7; have hk7 : Hid (Blk w7 (T + 1) (uc rv wv) 43 ∧ St2 I (red now) w T (i + 1) i (.slice (some ⟨gg, 0, none⟩) (i + 1) cap') wv (w7.setCell ⟨T + 1, 2, none⟩ (.slice (some ⟨gg, 0, none⟩) (i + 1) cap'))) := St2.app2 ((S3.out.alloc _).drew) hown7 hgrow7 (by simpa using hat7); have hc7 := hk7.out.1.cell 2 _ rfl; have hf7 := hk7.out.1.frozen 2))
                all_goals
                  clear c2 c2a c0
                  go_wp2
                  go_meet
                all_goals
                  refine ⟨_, hk7.out.2, ?_⟩
                  refine ((Blk.drew (KB.out.alloc _)).grown hgrow7 (fun e => ?_)).other _ _ _ ?_
                  · have := (S2.out.o2.lt _ e.symm).2; omega
                  · have := S2.out.sz; omega
              case rest =>
                obtain ⟨rv', S4, KB4⟩ := hcut
                generalize hW3 : wc = W3 at *
                clear hW3
                have c3 := S4.out.kU.cell 3 _ rfl
                have c3a : ∀ o, (W3.alloc o).cell? ⟨T + 1, 3, none⟩ = some wv := fun o => (S4.out.kU.alloc o).cell 3 _ rfl
                have c1 := KB4.out.cell 1 _ rfl
                have c1a : ∀ o, (W3.alloc o).cell? ⟨wr.heap.size, 1, none⟩ = some (.string (I.Wr i)) := fun o => (KB4.out.alloc o).cell 1 _ rfl
                go_upto_region 18 with fail
                go_region_law (first
                  | (refine step_append_lies _ (by rfl) _ _ _ (by rfl) (T + 2) 9 i0 _ 1 16 Ybad.underlying39 hi hz0 hz1 hz2 rfl (by decide) wv i (rows (fun k => [.string (I.Wr k)]) i) (by rfl) ((S4.out.o3.alloc _).drew) ⟨W3.heap.size, 0, none⟩ 1 1 [.string (I.Wr i)] (by rfl) (by rfl) (World.news_of_block (cs := #[.string (I.Wr i)]) (t := 9) (fr := (0, 0)) (heap_alloc_new W3 _)) (by simp [Value.oneCell']) (by omega) (by unfold maxLen; omega) (by omega) (by have := S4.out.sz; simp; omega) (W3.heap.size + 1) (by simp) ?_; intro gg cap' w7 hown7 hgrow7 hat7 hlt7; have hk7 : Hid (Blk w7 (T + 1) (uc rv' wv) 43 ∧ St2 I (red now) w T (i + 1) (i + 1) rv' (.slice (some ⟨gg, 0, none⟩) (i + 1) cap') (w7.setCell ⟨T + 1, 3, none⟩ (.slice (some ⟨gg, 0, none⟩) (i + 1) cap'))) := St2.app3 ((S4.out.alloc _).drew) hown7 hgrow7 (by simpa using hat7); have hc7 := hk7.out.1.cell 3 _ rfl; have hf7 := hk7.out.1.frozen 3))
                all_goals
                  clear c3 c3a c1 c1a
                  go_wp2
                  go_meet
                all_goals exact ⟨_, _, hk7.out.2⟩
            case rest =>
              obtain ⟨rv', wv', S5⟩ := hcut
              clear j1 c0 c1
              go_wp2
              go_roundg (I.L0 - (i + 1))
              case measure => omega
              case rel => exact ⟨i + 1, by omega, by omega, by go_num, rv', wv', S5⟩
          · have : i = I.L0 := by omega
            subst this
            go_wp2
            go_meet
            case rel => exact ⟨rv, wv, S2.out⟩
      case rest =>
        obtain ⟨rv, wv, S2⟩ := hcut
        have HS2 := hide S2
        clear S2 S1
        have hmm := @run_makeMap Ybad.prog
        have F2 : Hid (∀ W3, W3 = ((wc.alloc (.map #[] 0)).alloc (.map #[] 0)).alloc (.cells #[.pointer none, .slice none 0 0, .pointer none, .string { data := #[] }, .int .u32 0, .int .u32 0, .string { data := #[] }, .string { data := #[] }, .map none, .map (some wc.heap.size), .nilFunc, .int .i32 0, .int .u32 0, .pointer none, .map (some (wc.heap.size + 1)), .pointer none, .int .u64 0, .map none] 68) → St3 I (red now) w T wc.heap.size 0 0 rv wv (fun _ => none) (fun _ => none) W3) := by
          rintro W3 rfl
          have k1 := MapAt.made wc
          have k2 := MapAt.made (wc.alloc (.map #[] 0))
          simp only [World.size_alloc] at k2
          have k3 := Blk.made ((wc.alloc (.map #[] 0)).alloc (.map #[] 0)) #[.pointer none, .slice none 0 0, .pointer none, .string { data := #[] }, .int .u32 0, .int .u32 0, .string { data := #[] }, .string { data := #[] }, .map none, .map (some wc.heap.size), .nilFunc, .int .i32 0, .int .u32 0, .pointer none, .map (some (wc.heap.size + 1)), .pointer none, .int .u64 0, .map none] 68
          simp only [World.size_alloc] at k3
          exact { s2 := ((HS2.out.alloc _).alloc _).alloc _, hd := HS2.out.sz, sz := by simp, rb := fun j hj => (HS2.out.o2.lt j hj).2, wb := fun j hj => (HS2.out.o3.lt j hj).2, m1 := (k1.alloc _).alloc _, q1 := fun q hq => by rw [if_neg (by omega)], m2 := k2.alloc _, q2 := fun q hq => ⟨fun h => by omega, fun _ => rfl⟩, r9 := k3.cell 9 _ rfl, r14 := k3.cell 14 _ rfl }
        go_upto_region 21 with fail
        generalize hW3 : ((wc.alloc (.map #[] 0)).alloc (.map #[] 0)).alloc (.cells #[.pointer none, .slice none 0 0, .pointer none, .string { data := #[] }, .int .u32 0, .int .u32 0, .string { data := #[] }, .string { data := #[] }, .map none, .map (some wc.heap.size), .nilFunc, .int .i32 0, .int .u32 0, .pointer none, .map (some (wc.heap.size + 1)), .pointer none, .int .u64 0, .map none] 68) = W3
        have S3 := hide (F2.out W3 hW3.symm)
        clear F2 hW3 HS2 hmm
        generalize wc.heap.size = D at *
        clear wc
        go_upto_block 4 with fail
        go_cut [] (fun wd => ∃ f1, St3 I (red now) w T D (min I.L1 6) 0 rv wv f1 (fun _ => none) wd)
        case first =>
          go_wp2_with fail
          go_loopg [20] 6 (fun g s20 wr => ∃ k : Nat, k ≤ min I.L1 6 ∧ 6 - k ≤ g ∧ s20 = .int .i64 k ∧ ∃ f1, Hid (St3 I (red now) w T D k 0 rv wv f1 (fun _ => none) wr))
          case atStart => exact ⟨0, Nat.zero_le _, by omega, rfl, _, S3.out⟩
          case round =>
            obtain ⟨k, hk, hg, rfl, f1, S4⟩ := hrel
            by_cases hlt : k < I.L1
            · have e1 : decide ((k : Int) < (I.L1 : Int)) = true := by simp; omega
              by_cases h6 : k < 6
              · have e2 : decide ((k : Int) < 6) = true := by simp; omega
                have j1 : ∀ wx, Sem.run Ybad.prog (Instr.indexAt 23 (.slice p.a1 I.L1 p.c1) (.int .i64 (k : Int))) wx = .ok (.pointer (some ⟨p.g1, p.o1 + k, none⟩)) wx := M.out.x1 k hlt
                have hb4 := S4.out.s2.bel
                have c1 : wr.cell? ⟨p.g1, p.o1 + k, none⟩ = some (.int .u64 (I.pb k : Int)) := (M.out.kept hb4).t1 k hlt 0 _ rfl
                have c9 := S4.out.r9
                have hw : IntKind.u8.wrap (k : Int) = (k : Int) := by rw [IntKind.wrap_u8]; omega
                have K6 : Hid (∀ wx, Calls Ybad.prog 6 #[.int .u8 (k : Int)] wx fun e w' => e = .returned (.string (aorS k)) ∧ w' = wx) := fun wx => aor6 k (by omega) wx
                have hup : Sem.run Ybad.prog (Instr.mapUpdate 48 (.map (some D)) (.string (aorS k)) (pv I k)) wr.drew = .ok () (setMap wr.drew D (aorS k) (pv I k)) := store48 S4.out.drew.m1 _ _
                have S5 := hide (S4.out.drew.put1 h6)
                generalize hWm : setMap wr.drew D (aorS k) (pv I k) = Wm at *
                clear hWm
                have c1' : Wm.cell? ⟨p.g1, p.o1 + k, none⟩ = some (.int .u64 (I.pb k : Int)) := (M.out.kept S5.out.s2.bel).t1 k hlt 0 _ rfl
                have c9' := S5.out.r9
                clear hb4
                go_upto_region 24 with fail
                go_region_held (fun w' => w'.cell? ⟨D + 1 + 1, 9, none⟩ = some (.map (some D)) ∧ w'.cell? ⟨p.g1, p.o1 + k, none⟩ = some (.int .u64 (I.pb k : Int)))
                  (first | exact ⟨c9', c1'⟩ | exact ⟨c9, c1⟩ | go_keep)
                  (first | (go_at_call 6; refine (K6.out _).mono ?_; rintro e w6 ⟨rfl, rfl⟩))
                all_goals
                  clear c1 c9 c1' c9' j1 hup
                  go_wp2
                  go_roundg (6 - (k + 1))
                  case measure => omega
                  case rel => exact ⟨k + 1, by omega, by omega, by go_num, _, S5⟩
              · have e2 : decide ((k : Int) < 6) = false := by simp; omega
                have hk6 : k = min I.L1 6 := by omega
                go_wp2
                go_meet
                case rel => exact ⟨f1, by rw [← hk6]; exact S4.out⟩
            · have e1 : decide ((k : Int) < (I.L1 : Int)) = false := by simp; omega
              have hk6 : k = min I.L1 6 := by omega
              go_wp2
              go_meet
              case rel => exact ⟨f1, by rw [← hk6]; exact S4.out⟩
        case rest =>
          obtain ⟨f1, S4⟩ := hcut
          have HS4 := hide S4
          clear S4 S3
          go_upto_block 6 with fail
          go_cut [] (fun wd => ∃ f2, St3 I (red now) w T D (min I.L1 6) (min I.L2 6) rv wv f1 f2 wd)
          case first =>
            go_wp2_with fail
            go_loopg [21] 6 (fun g s21 wr => ∃ k : Nat, k ≤ min I.L2 6 ∧ 6 - k ≤ g ∧ s21 = .int .i64 k ∧ ∃ f2, Hid (St3 I (red now) w T D (min I.L1 6) k rv wv f1 f2 wr))
            case atStart => exact ⟨0, Nat.zero_le _, by omega, rfl, _, HS4.out⟩
            case round =>
              obtain ⟨k, hk, hg, rfl, f2, S4⟩ := hrel
              by_cases hlt : k < I.L2
              · have e1 : decide ((k : Int) < (I.L2 : Int)) = true := by simp; omega
                by_cases h6 : k < 6
                · have e2 : decide ((k : Int) < 6) = true := by simp; omega
                  have j1 : ∀ wx, Sem.run Ybad.prog (Instr.indexAt 24 (.slice p.a2 I.L2 p.c2) (.int .i64 (k : Int))) wx = .ok (.pointer (some ⟨p.g2, p.o2 + k, none⟩)) wx := M.out.x2 k hlt
                  have hb4 := S4.out.s2.bel
                  have hbk := M.out.k2 k hlt
                  have c1 : wr.cell? ⟨p.g2, p.o2 + k, none⟩ = some (.int .u8 (I.bd k : Int)) := (M.out.kept hb4).t2 k hlt 0 _ rfl
                  have c14 := S4.out.r14
                  have hw : IntKind.u8.wrap (k : Int) = (k : Int) := by rw [IntKind.wrap_u8]; omega
                  have hw3 : (I.bd k : Int).tmod 3 = ((I.bd k % 3 : Nat) : Int) := by rw [Int.tmod_eq_emod_of_nonneg (by omega)]; omega
                  have hw2 : IntKind.i64.wrap ((I.bd k % 3 : Nat) : Int) = ((I.bd k % 3 : Nat) : Int) := by rw [IntKind.wrap_i64]; omega
                  have mk : ∀ wx, Sem.run Ybad.prog (Instr.makeSlice 72 (.int .i64 ((I.bd k % 3 : Nat) : Int)) (.int .i64 ((I.bd k % 3 : Nat) : Int))) wx = .ok (.slice (some ⟨wx.heap.size, 0, none⟩) (I.bd k % 3) (I.bd k % 3)) (wx.alloc (.cells (madeCells (bc 0 0 { data := #[] } 0 0) ((I.bd k % 3) * 15)) 86)) := fun wx => run_make72 wx (I.bd k % 3) (I.bd k % 3) (Nat.le_refl _) (by omega)
                  have K6 : Hid (∀ wx, Calls Ybad.prog 6 #[.int .u8 (k : Int)] wx fun e w' => e = .returned (.string (aorS k)) ∧ w' = wx) := fun wx => aor6 k (by omega) wx
                  generalize hob : (Obj.cells (madeCells (bc 0 0 { data := #[] } 0 0) ((I.bd k % 3) * 15)) 86) = ob at *
                  clear hob
                  have hup : Sem.run Ybad.prog (Instr.mapUpdate 49 (.map (some (D + 1))) (.string (aorS k)) (.slice (some ⟨wr.heap.size, 0, none⟩) (I.bd k % 3) (I.bd k % 3))) (wr.alloc ob).drew = .ok () (setMap (wr.alloc ob).drew (D + 1) (aorS k) (.slice (some ⟨wr.heap.size, 0, none⟩) (I.bd k % 3) (I.bd k % 3))) := store49 (S4.out.alloc ob).drew.m2 _ _
                  have S5 := hide ((S4.out.alloc ob).drew.put2 h6 (some ⟨wr.heap.size, 0, none⟩))
                  generalize hWm : setMap (wr.alloc ob).drew (D + 1) (aorS k) (.slice (some ⟨wr.heap.size, 0, none⟩) (I.bd k % 3) (I.bd k % 3)) = Wm at *
                  clear hWm
                  have c1' : Wm.cell? ⟨p.g2, p.o2 + k, none⟩ = some (.int .u8 (I.bd k : Int)) := (M.out.kept S5.out.s2.bel).t2 k hlt 0 _ rfl
                  have c14' := S5.out.r14
                  have c1a : (wr.alloc ob).cell? ⟨p.g2, p.o2 + k, none⟩ = some (.int .u8 (I.bd k : Int)) := (M.out.kept (S4.out.alloc ob).s2.bel).t2 k hlt 0 _ rfl
                  have c14a := (S4.out.alloc ob).r14
                  clear hb4
                  generalize I.bd k % 3 = l at *
                  go_upto_region 28 with fail
                  go_region_held (fun w' => w'.cell? ⟨D + 1 + 1, 14, none⟩ = some (.map (some (D + 1))) ∧ w'.cell? ⟨p.g2, p.o2 + k, none⟩ = some (.int .u8 (I.bd k : Int)))
                    (first | exact ⟨c14', c1'⟩ | exact ⟨c14, c1⟩ | exact ⟨c14a, c1a⟩ | go_keep)
                    (first | (go_at_call 6; refine (K6.out _).mono ?_; rintro e w6 ⟨rfl, rfl⟩))
                  all_goals
                    clear c1 c14 c1' c14' c1a c14a j1 hup mk
                    go_wp2
                    go_roundg (6 - (k + 1))
                    case measure => omega
                    case rel => exact ⟨k + 1, by omega, by omega, by go_num, _, S5⟩
                · have e2 : decide ((k : Int) < 6) = false := by simp; omega
                  have hk6 : k = min I.L2 6 := by omega
                  go_wp2
                  go_meet
                  case rel => exact ⟨f2, by rw [← hk6]; exact S4.out⟩
              · have e1 : decide ((k : Int) < (I.L2 : Int)) = false := by simp; omega
                have hk6 : k = min I.L2 6 := by omega
                go_wp2
                go_meet
                case rel => exact ⟨f2, by rw [← hk6]; exact S4.out⟩
          case rest =>
            obtain ⟨f2, S4⟩ := hcut
            have HS4' := hide S4
            clear S4 HS4
            have hmm := @run_makeMap Ybad.prog
            have F3 : Hid (∀ W4, W4 = wc.alloc (.map #[] 0) → St4 I (red now) w T D wc.heap.size 0 rv wv f1 f2 (fun _ => none) W4) := by
              rintro W4 rfl
              exact { s3 := HS4'.out.alloc _, hc := HS4'.out.sz, sz := by simp, m3 := MapAt.made wc, q3 := fun q hq => rfl }
            go_upto_region 30 with fail
            generalize hW4 : wc.alloc (.map #[] 0) = W4
            have S4 := hide (F3.out W4 hW4.symm)
            clear F3 hW4 HS4' hmm
            generalize wc.heap.size = C at *
            clear wc
            have hnj : Hid (∀ j, j < I.L3 → I.n j ≤ 1048576) := fun j hj => by have := le_tot I.n I.L3 j hj; omega
            go_upto_block 8 with fail
            go_cut [] (fun wd => ∃ f3, St4 I (red now) w T D C I.L3 rv wv f1 f2 f3 wd)
            case first =>
              obtain ⟨i0, hi, hz0, hz1, hz2⟩ := info_parts info86
              go_wp2_with fail
              go_loopg [168] I.L3 (fun g s168 wr => ∃ j : Nat, j ≤ I.L3 ∧ I.L3 - j ≤ g ∧ s168 = .int .i64 j ∧ ∃ f3, Hid (St4 I (red now) w T D C j rv wv f1 f2 f3 wr))
              case atStart => exact ⟨0, Nat.zero_le _, by omega, rfl, _, S4.out⟩
              case round =>
                obtain ⟨j, hj, hg, rfl, f3, S5⟩ := hrel
                by_cases hlt : j < I.L3
                · have j1 : ∀ wx, Sem.run Ybad.prog (Instr.indexAt 25 (.slice p.a3 I.L3 p.c3) (.int .i64 (j : Int))) wx = .ok (.pointer (some ⟨p.g3, p.o3 + j * 2, none⟩)) wx := M.out.x3 j hlt
                  have t3 := (M.out.kept S5.out.s3.s2.bel).t3 j hlt
                  have c0 : wr.cell? ⟨p.g3, p.o3 + j * 2, none⟩ = some (.int .u8 (I.kc j : Int)) := t3 0 _ rfl
                  have c1 : wr.cell? ⟨p.g3, p.o3 + j * 2 + 1, none⟩ = some (.slice (p.ab j) (I.n j) (p.cp j)) := t3 1 _ rfl
                  have hn := hnj.out j hlt
                  have K6 : Hid (∀ wx, Calls Ybad.prog 6 #[.int .u8 (I.kc j : Int)] wx fun e w' => e = .returned (.string (aorS (I.kc j))) ∧ w' = wx) := fun wx => aor6 (I.kc j) (M.out.k3 j hlt) wx
                  have q26 : ∀ (w : World) (a : Option Addr) (n c n' c' : Nat), (binOp .neq 26 (.slice a n c) (.slice none n' c')).run Ybad.prog w = .ok (.bool (!a.isNone)) w := neq26
                  have F4 : Hid (∀ W5, W5 = wr.alloc (.cells #[.int .u8 (I.kc j : Int), .slice (p.ab j) (I.n j) (p.cp j)] 28) → St4 I (red now) w T D C j rv wv f1 f2 f3 W5 ∧ Blk W5 wr.heap.size #[.int .u8 (I.kc j : Int), .slice (p.ab j) (I.n j) (p.cp j)] 28 ∧ W5.heap.size = wr.heap.size + 1) := by
                    rintro W5 rfl
                    exact ⟨S5.out.alloc _, Blk.made wr _ _, by simp⟩
                  clear t3
                  go_upto_region 33 with fail
                  clear j1 c0 c1
                  generalize hW5 : wr.alloc (.cells #[.int .u8 (I.kc j : Int), .slice (p.ab j) (I.n j) (p.cp j)] 28) = W5
                  obtain ⟨s5, k5, z5⟩ := F4.out W5 hW5.symm
                  have S6 := hide s5
                  have K5 := hide k5
                  have Z5 := hide z5
                  clear F4 hW5 s5 k5 z5
                  have c1 := K5.out.cell 1 _ rfl
                  go_upto_if 174 with fail
                  go_cut [25] (fun v25 wd => Below W5.heap.size W5 wd ∧ wd.ownsRow W5.heap.size 86 15 v25 (I.n j) (rows (fun k => (I.Bb j k).cells.toList) (I.n j)))
                  case first =>
                    cases hab : p.ab j with
                    | none =>
                      have hn0 := M.out.nb j hlt hab
                      have HAB := hide hab
                      have HN0 := hide hn0
                      clear hn0
                      go_wp2
                      go_meet
                      case rel => exact ⟨Below.refl _ _, by rw [HN0.out]; exact World.ownsRow_nil _ _ _ _⟩
                    | some ad =>
                      have mk : ∀ wx, Sem.run Ybad.prog (Instr.makeSlice 72 (.int .i64 0) (.int .i64 (I.n j : Int))) wx = .ok (.slice (some ⟨wx.heap.size, 0, none⟩) 0 (I.n j)) (wx.alloc (.cells (madeCells (bc 0 0 { data := #[] } 0 0) (I.n j * 15)) 86)) := fun wx => run_make72 wx 0 (I.n j) (Nat.zero_le _) hn
                      have xb := M.out.xb j hlt
                      rw [hab] at xb c1
                      have XB := hide xb
                      have HAB := hide hab
                      clear xb hab
                      have F5 : Hid (∀ W6, W6 = W5.alloc (.cells (madeCells (bc 0 0 { data := #[] } 0 0) (I.n j * 15)) 86) → Below W5.heap.size W5 W6 ∧ W6.ownsRow W5.heap.size 86 15 (.slice (some ⟨W5.heap.size, 0, none⟩) 0 (I.n j)) 0 (rows (fun k => (I.Bb j k).cells.toList) 0)) := by
                        rintro W6 rfl
                        exact ⟨(Below.refl _ W5).alloc (Nat.le_refl _) _, World.ownsRow_made W5 _ _ (Nat.le_refl _) (by unfold maxLen; omega) (by rw [size_madeCells])⟩
                      go_upto_region 36 with fail
                      generalize hW6 : W5.alloc (.cells (madeCells (bc 0 0 { data := #[] } 0 0) (I.n j * 15)) 86) = W6
                      obtain ⟨b6, o6⟩ := F5.out W6 hW6.symm
                      have B6 := hide b6
                      have O6 := hide o6
                      clear F5 hW6 b6 o6 mk
                      have c1 := (K5.out.kept B6.out).cell 1 _ rfl
                      rw [HAB.out] at c1
                      go_upto_block 10 with fail
                      go_wp2_with fail
                      go_loopg [182, 25] (I.n j) (fun g s182 s25 wi => ∃ k : Nat, k ≤ I.n j ∧ I.n j - k ≤ g ∧ s182 = .int .i64 k ∧ Hid (Below W5.heap.size W5 wi) ∧ Hid (wi.ownsRow W5.heap.size 86 15 s25 k (rows (fun k => (I.Bb j k).cells.toList) k)))
                      case atStart => exact ⟨0, Nat.zero_le _, by omega, rfl, B6.out, O6.out⟩
                      case round =>
                        obtain ⟨k, hk, hg2, rfl, B7, O7⟩ := hrel
                        by_cases hkn : k < I.n j
                        · have jb : ∀ wx, Sem.run Ybad.prog (Instr.indexAt 26 (.slice (some ad) (I.n j) (p.cp j)) (.int .i64 (k : Int))) wx = .ok (.pointer (some ⟨p.gb j, p.ob j + k * 4, none⟩)) wx := XB.out k hkn
                          have hbw : Below w.heap.size w wr := S6.out.s3.s2.bel.trans (B7.out.mono S6.out.s3.s2.bel.size)
                          have tb := (M.out.kept hbw).tb j hlt k hkn
                          have hok := M.out.kb j hlt k hkn
                          have K7 : Hid (∀ wx, Calls Ybad.prog 7 #[.agg (rb ((I.Bb j k).id : Int) (I.Bb j k).ev (I.Bb j k).uri (I.Bb j k).ex)] wx fun e w' => e = .returned (.agg (bc ((I.Bb j k).id : Int) (I.Bb j k).ev (I.Bb j k).uri (tS (red (I.Bb j k).ex)) (tN (red (I.Bb j k).ex)))) ∧ Hid (Below wx.heap.size wx w')) := fun wx => mkBd (I.Bb j k) hok wx
                          have hrows : Hid (rows (fun k => (I.Bb j k).cells.toList) (k + 1) = rows (fun k => (I.Bb j k).cells.toList) k ++ (bc ((I.Bb j k).id : Int) (I.Bb j k).ev (I.Bb j k).uri (tS (red (I.Bb j k).ex)) (tN (red (I.Bb j k).ex))).toList) := rfl
                          have g0 : wr.cell? ⟨p.gb j, p.ob j + k * 4, none⟩ = some (.int .u64 ((I.Bb j k).id : Int)) := tb 0 _ rfl
                          have g1 : wr.cell? ⟨p.gb j, p.ob j + k * 4 + 1, none⟩ = some (.int .i8 (I.Bb j k).ev) := tb 1 _ rfl
                          have g2 : wr.cell? ⟨p.gb j, p.ob j + k * 4 + 2, none⟩ = some (.string (I.Bb j k).uri) := tb 2 _ rfl
                          have g3 : wr.cell? ⟨p.gb j, p.ob j + k * 4 + 3, none⟩ = some (.int .i64 (I.Bb j k).ex) := tb 3 _ rfl
                          clear tb hok hbw
                          generalize tS (red (I.Bb j k).ex) = sX at *
                          generalize tN (red (I.Bb j k).ex) = nX at *
                          generalize (I.Bb j k).id = iX at *
                          generalize (I.Bb j k).ev = vX at *
                          generalize (I.Bb j k).uri = uX at *
                          generalize (I.Bb j k).ex = xX at *
                          generalize hrk1 : rows (fun k => (I.Bb j k).cells.toList) (k + 1) = rk1 at *
                          have HRK := hide hrk1
                          generalize rows (fun k => (I.Bb j k).cells.toList) k = rk at *
                          clear hrk1 c1
                          go_upto_region 39 with fail
                          clear g0 g1 g2 g3 jb
                          have B8 : Hid (∀ W7, W7 = wr.alloc (.cells (rb (iX : Int) vX uX xX) 75) → Blk W7 wr.heap.size (rb (iX : Int) vX uX xX) 75 ∧ Below W5.heap.size W5 W7 ∧ W7.ownsRow W5.heap.size 86 15 u25 k rk) := by
                            rintro W7 rfl
                            exact ⟨Blk.made _ _ _, B7.out.alloc B7.out.size _, O7.out.alloc _⟩
                          generalize hW7 : wr.alloc (.cells (rb (iX : Int) vX uX xX) 75) = W7
                          obtain ⟨k7, b7, o7⟩ := B8.out W7 hW7.symm
                          have B9 := hide b7
                          have O9 := hide o7
                          have g0 := k7.cell 0 _ rfl
                          have g1 := k7.cell 1 _ rfl
                          have g2 := k7.cell 2 _ rfl
                          have g3 := k7.cell 3 _ rfl
                          clear B8 hW7 k7 b7 o7
                          go_wp2_with (first
                            | (go_at_call 7; refine (K7.out _).mono ?_; rintro e w5 ⟨rfl, hb5⟩)
                            | (at_builtin; refine wpList_append_lies _ rfl _ _ 72 rfl W5.heap.size 86 i0 _ 15 200 Ybad.underlying72 hi hz0 hz1 hz2 rfl (by decide) u25 k rk rfl ((own_kept O9.out hb5.out).alloc _) ⟨w5.heap.size, 0, none⟩ 1 1 (bc (iX : Int) vX uX sX nX).toList rfl rfl (World.news_of_block (cs := bc (iX : Int) vX uX sX nX) (t := 86) (fr := (0, 0)) (heap_alloc_new w5 _)) (by simp [Value.oneCell']) (by omega) (by unfold maxLen; omega) (by omega) (by have := hb5.out.size; have := B9.out.size; simp; omega) (w5.heap.size + 1) (by simp) ?_; intro gg cap' w7 hown7 hgrow7 hat7 hlt7))
                          go_roundg (I.n j - (k + 1))
                          case measure => omega
                          case rel =>
                            have hp5 := B9.out.trans (hb5.out.mono B9.out.size)
                            exact ⟨k + 1, by omega, by omega, by go_num, (hp5.alloc hp5.size _).grown hgrow7 (by have := hp5.size; simp; omega) (fun b hb => (O9.out.lt b hb).1), by rw [HRK.out, hrows.out]; exact hown7⟩
                        · have : k = I.n j := by omega
                          subst this
                          go_wp2
                          go_meet
                          case rel => exact ⟨B7.out, O7.out⟩
                  case rest =>
                    obtain ⟨hb6, ho6⟩ := hcut
                    have S7 := hide (S6.out.kept hb6)
                    have O6 : Hid (wc.ownsRow (C + 1) 86 15 u25 (I.n j) (rows (fun k => (I.Bb j k).cells.toList) (I.n j))) := ho6.mono (by have := S6.out.sz; omega)
                    have c0 := (K5.out.kept hb6).cell 0 _ rfl
                    have hup : Sem.run Ybad.prog (Instr.mapUpdate 49 (.map (some C)) (.string (aorS (I.kc j))) u25) wc = .ok () (setMap wc C (aorS (I.kc j)) u25) := store49 S7.out.m3 _ _
                    have S8 := hide (S7.out.put u25 O6.out)
                    generalize setMap wc C (aorS (I.kc j)) u25 = Wm at *
                    clear hb6 ho6 c1
                    go_wp2_with (first | (go_at_call 6; refine (K6.out _).mono ?_; rintro e w6 ⟨rfl, rfl⟩))
                    go_roundg (I.L3 - (j + 1))
                    case measure => omega
                    case rel => exact ⟨j + 1, by omega, by omega, by go_num, _, S8⟩
                · have : j = I.L3 := by omega
                  subst this
                  go_wp2
                  go_meet
                  case rel => exact ⟨f3, S5.out⟩
            case rest =>
              obtain ⟨f3, S5⟩ := hcut
              have HS5 := hide S5
              clear S5 S4
              have hr := hide (red_bound now)
              have K8 : Hid (Calls Ybad.prog 8 #[.pointer (some ⟨D + 1 + 1, 0, none⟩), .pointer (some ⟨T + 1, 0, none⟩), .map (some C), .agg (tc (tS (red now)) (tN (red now)))] wc fun e w' =>
                  ∃ da P dc xs, e = .returned (.agg (dc5 (.slice da P dc))) ∧ Hid (Below wc.heap.size wc w' ∧ w'.ownsRow wc.heap.size 98 4 (.slice da P dc) P xs ∧ RegsOk (GOf I f3) I.Wr (PdOf I) (StOf I) (red now) wc.heap.size w' (Value.slice da P dc).ownBlock I.L0 P xs ∧ (P = 0 → Value.slice da P dc = .slice none 0 0))) :=
                part8 wc _ _ _ _ _ rv wv I.L0 _ _ f1 f2 f3 _ _ _ (hide (env_of HS5.out M.out hnj.out)) (red now) hr b0
              have t0 := HS5.out.s3.s2.kT.cell 0 _ rfl
              have t1 := HS5.out.s3.s2.kT.cell 1 _ rfl
              have t2 := HS5.out.s3.s2.kT.cell 2 _ rfl
              go_upto_region 44 with (first | (go_at_call 8; refine K8.out.mono ?_; rintro e w8 ⟨da, P, dc, xs, rfl, hk8⟩))
              clear t0 t1 t2 K8
              have F6 : Hid (∀ W9, W9 = w8.alloc (.cells (dc5 (.slice da P dc)) 93) → St5 I (red now) w T D C w8.heap.size P rv wv f1 f2 f3 da dc W9) := by
                rintro W9 rfl
                obtain ⟨h1, h2, h3, h4⟩ := hk8.out
                exact { s4 := (HS5.out.kept h1).alloc _, kV := Blk.made _ _ _, rg := ⟨xs, (h2.mono (Nat.zero_le _)).alloc _, RegsOk.base (h3.kept ((Below.refl _ w8).alloc (Nat.le_refl _) _)) (Nat.zero_le _)⟩, nl := h4 }
              generalize hW9 : w8.alloc (.cells (dc5 (.slice da P dc)) 93) = W9
              have S9 := hide (F6.out W9 hW9.symm)
              clear F6 hW9 hk8 HS5
              generalize w8.heap.size = V at *
              clear w8 wc
              have v0 := S9.out.kV.cell 0 _ rfl
              have v1 := S9.out.kV.cell 1 _ rfl
              have v2 := S9.out.kV.cell 2 _ rfl
              have v3 := S9.out.kV.cell 3 _ rfl
              go_upto_region 46 with fail
              clear v0 v1 v2 v3
              go_upto_block 12 with fail
              refine loop7 I p now w T D C V P rv wv f1 f2 f3 da dc W9 M S9 b0 b3 hnj hr _ _ _ _ _ _ _ _ _ _ _ _ _ _ _ _ _ _ _ _ _ _ _ _ _ _ _ _ _ _ _ _ _ _ _ _ _ _ _ _ _ _ _ _ _ _ _ _ _ _ _ _ _ _ _ _ _ _ _ _ _ _ _ _ _ _ _ _ _ _ _ _ _ _ _ _ _ _ _ _ _ _ _ _ _ _ _ _ _ _ _ _ _ _ _ _ _ _ _ _ _ _ _ _ _ _ _ _ _ _ _ _ _ _ _ _ _ _ _ _ _ _ _ _ _ _ _ _ _ _ _ _ _ _ _ _ _ _ _ _ _ _ _ _ _ _ _ _ _ _ _ _ _ _ _ _ _ _ _ _ _ _ _ _ _ _ _ _ _ _ _ _ _ _ _ _ _ _ _ _ _ _ _ _ _ _ _ _ _ _ _ _ _ _ _ _ _ _ _ _ _ _ _ _ _ _ _ _ _ _ _ _ _ _ _ _ _ _ _ _ _ _ _ _ _ _ _ _ _ _ _ _ _ _ _ _ _ _ _ _ _ _ _ _ _ _ _ _ _ _ _ _ _ _ _ _ _ _ _ _ _ _ _ _ _ _ _ _ _ _ _ _ _ _ _ _ _ _ _ _ _ _ _ _ _ _ _ _ _ _ _ _ _ _ _ _ _ _ _ _ _ _ _ _ _ _ _ _ _ _ _ _ _ _ _ _ _ _ _ _ _ _ _ _ _ _ _ _ _ _ _ _ _ _ _ _ _ _ _ _ _ _ _ _ _ _ _ _ _ _ _ _ _ _ _ _ _ _ _ _ _ _ _ _ _ _ _ _ _ _ _ _ _ _ _ _ _ _ _ _ _ _ _ _ _ _ _ _ _ _ _ _ _ _ _ _ _ _ _ _ _ _ _ _ _ _ _ _ _ _ _ _ _ _ _ _ _ _ _ _ _ _ _ _ _ _ _ _ _ _ _ _ _ _ _ _ _ _ _ ?_
              intro v10 v29 v30 v31 v32 v33 v34 v35 v36 v37 v38 v39 v225 v226 v227 v228 v229 v230 v231 v232 v233 v234 v235 v236 v237 v238 v239 v240 v241 v242 v243 v244 v245 v246 v247 v248 v249 v250 v251 v252 v253 v254 v255 v256 v257 v258 v259 v260 v261 v262 v263 v264 v265 v266 v267 v268 v269 v270 v271 v272 v273 v274 v275 v276 v277 v278 v279 v280 v281 v282 v283 v284 v285 v286 v287 v288 v289 v290 v291 v292 v293 v294 v295 v296 v297 v298 v299 v300 v301 v302 v303 v304 v305 v306 v307 v308 v309 v310 v311 v312 v313 v314 v315 v316 v317 v318 v319 v320 v321 v322 v323 v324 v325 v326 v327 v328 v329 v330 v331 v332 v333 v334 v335 v336 v337 v338 v339 v340 v341 v342 v343 v344 v345 v346 v347 v348 v349 v350 v351 v352 v353 v354 v355 v356 v357 v358 v359 v360 v361 v362 v363 v364 wc h29 hb
              subst h29
              have S14 := hide (S9.out.kept hb)
              clear hb
              obtain ⟨ra, rc', hrv⟩ := own_form S14.out.s4.s3.s2.o2
              obtain ⟨wa, wc', hwv⟩ := own_form S14.out.s4.s3.s2.o3
              have v4 := S14.out.kV.cell 4 _ rfl
              have u2 : wc.cell? ⟨T + 1, 2, none⟩ = some (.slice ra I.L0 rc') := by rw [← hrv]; exact S14.out.s4.s3.s2.kU.cell 2 _ rfl
              have u3 : wc.cell? ⟨T + 1, 3, none⟩ = some (.slice wa I.L0 wc') := by rw [← hwv]; exact S14.out.s4.s3.s2.kU.cell 3 _ rfl
              have q91 := eql91
              have hn91 := isNone_eq S14.out.nilP
              clear hrv hwv
              go_upto_block 18 with fail
              clear v4 u2 u3 q91 hn91
              refine loop10 I p now w T D C V P rv wv f1 f2 f3 da dc wc M S14 b0 b3 hnj hr _ _ _ _ _ _ _ _ _ _ _ _ _ _ _ _ _ _ _ _ _ _ _ _ _ _ _ _ _ _ _ _ _ _ _ _ _ _ _ _ _ _ _ _ _ _ _ _ _ _ _ _ _ _ _ _ _ _ _ _ _ _ _ _ _ _ _ _ _ _ _ _ _ _ _ _ _ _ _ _ _ _ _ _ _ _ _ _ _ _ _ _ _ _ _ _ _ _ _ _ _ _ _ _ _ _ _ _ _ _ _ _ _ _ _ _ _ _ _ _ _ _ _ _ _ _ _ _ _ _ _ _ _ _ _ _ _ _ _ _ _ _ _ _ _ _ _ _ _ _ _ _ _ _ _ _ _ _ _ _ _ _ _ _ _ _ _ _ _ _ _ _ _ _ _ _ _ _ _ _ _ _ _ _ _ _ _ _ _ _ _ _ _ _ _ _ _ _ _ _ _ _ _ _ _ _ _ _ _ _ _ _ _ _ _ _ _ _ _ _ _ _ _ _ _ _ _ _ _ _ _ _ _ _ _ _ _ _ _ _ _ _ _ _ _ _ _ _ _ _ _ _ _ _ _ _ _ _ _ _ _ _ _ _ _ _ _ _ _ _ _ _ _ _ _ _ _ _ _ _ _ _ _ _ _ _ _ _ _ _ _ _ _ _ _ _ _ _ _ _ _ _ _ _ _ _ _ _ _ _ _ _ _ _ _ _ _ _ _ _ _ _ _ _ _ _ _ _ _ _ _ _ _ _ _ _ _ _ _ _ _ _ _ _ _ _ _ _ _ _ _ _ _ _ _ _ _ _ _ _ _ _ _ _ _ _ _ _ _ _ _ _ _ _ _ _ _ _ _ _ _ _ _ _ _ _ _ _ _ _ _ _ _ _ _ _ _ _ _ _ _ _ _ _ _ _ _ _ _ _ _ _ _ _ _ _ _ _ _ _ _ _ _ _ _ _ _ _ _ _ _ _ _ _ _ _ _ _ _ _ _ _ ?_
              intro x10 x40 x41 x42 x43 x44 x45 x396 x397 x398 x399 x400 x401 x402 x403 x404 x405 x406 x407 x408 x409 x410 x411 x412 x413 x414 x415 x416 x417 x418 x419 x420 x421 x422 x423 x424 x425 x426 x427 x428 x429 x430 x431 x432 x433 x434 x435 x436 x437 x438 x439 x440 x441 x442 x443 x444 x445 x446 x447 x448 wd hcut
              have HB := hide (S14.out.s4.s3.s2.bel.trans (hcut.mono S14.out.s4.s3.s2.bel.size))
              clear hcut
              go_wp2
              go_ret
              exact ⟨rfl, HB.out⟩
end Go.Proofs.YbulkeeoiDoor

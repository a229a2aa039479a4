import Derived.Test.YbulkeeoiDoorView
import Derived.Deep.RegionLaw
import Derived.Test.YbulkeeoiDoorInfo
import Derived.Test.YbulkeeoiDoorSame
namespace Go.Proofs.YbulkeeoiDoor
open Go.RowKit Go.Sort
set_option linter.unusedVariables false

/-- What a binding holds. -/
structure Bd where
  id : Nat
  ev : Int
  uri : ByteArray
  ex : Int
def Bd.ok (b : Bd) : Prop := b.id < 18446744073709551616 ∧ (-128 ≤ b.ev ∧ b.ev ≤ 127) ∧ (-9223372036854775808 ≤ b.ex ∧ b.ex ≤ 9223372036854775807)
/-- A binding's cells; the contact's that tells of it. -/
def Bd.cells (b : Bd) : Array Value := bc (b.id : Int) b.ev b.uri (tS (red b.ex)) (tN (red b.ex))
def Bd.contact (N : Int) (b : Bd) : Array Value := cc ({ data := #[99] } ++ num b.id) (cst b.ev) b.ev (cex b.ev (red b.ex - N)) b.uri

theorem infoBd (b : Bd) (hb : b.ok) (N : Int) (hN : -1125899906842624 < N ∧ N < 1125899906842624) (w : World) (htab : Hid (Lib.TabIs Ybad.prog w Ybad.powName .u64 Lib.pow10Tab)) :
    Calls Ybad.prog 20 #[.agg b.cells, .agg (tc (tS N) (tN N))] w fun e w' => e = .returned (.agg (b.contact N)) ∧ Below w.heap.size w w' :=
  info20 b.id b.ev b.uri (red b.ex) N w hb.1 hb.2.1 (red_bound b.ex) hN htab

theorem cell_kept {w w' : World} {a : Addr} {v : Value} (h : w.cell? a = some v) (hb : Below w.heap.size w w') : w'.cell? a = some v := by
  rw [hb.cell (World.block_lt_of_cell? w a h)]; exact h

theorem field71 (p : Int) (w : World) : Sem.run Ybad.prog (Instr.field 71 (.agg #[.int .u64 p, .slice none 0 0]) 0) w = .ok (.int .u64 p) w := by
  have a1 := Ybad.isAgg30
  have a2 := Ybad.sizeOf30
  simp [Instr.field, run_underlying Ybad.underlying71, go_sem, asAgg]

/-- The two blocks that a round of registrationInfo reads whole. -/
def S2 (b16 b11 : Nat) (C16 C11 : Array Value) (wx : World) : Prop := Blk wx b16 C16 86 ∧ Blk wx b11 C11 33
theorem S2.drew {b16 b11 : Nat} {C16 C11 : Array Value} {wx : World} (h : S2 b16 b11 C16 C11 wx) : S2 b16 b11 C16 C11 wx.drew := h
theorem S2.alloc {b16 b11 : Nat} {C16 C11 : Array Value} {wx : World} (h : S2 b16 b11 C16 C11 wx) (o : Obj) : S2 b16 b11 C16 C11 (wx.alloc o) := ⟨Blk.alloc h.1 o, Blk.alloc h.2 o⟩
theorem S2.set {b16 b11 : Nat} {C16 C11 : Array Value} {wx : World} (h : S2 b16 b11 C16 C11 wx) (b i : Nat) (v : Value) (h1 : ¬ b = b16) (h2 : ¬ b = b11) : S2 b16 b11 C16 C11 (wx.setCell ⟨b, i, none⟩ v) := ⟨Blk.other h.1 b i v (fun e => h1 e.symm), Blk.other h.2 b i v (fun e => h2 e.symm)⟩
theorem S2.kept {b16 b11 : Nat} {C16 C11 : Array Value} {w wx : World} (h : S2 b16 b11 C16 C11 w) (hb : Below w.heap.size w wx) : S2 b16 b11 C16 C11 wx := ⟨Blk.kept h.1 hb, Blk.kept h.2 hb⟩
theorem S2.grown {b16 b11 : Nat} {C16 C11 : Array Value} {w wx : World} {row : Option Nat} (h : S2 b16 b11 C16 C11 w) (hg : w.grownBy wx row) (h1 : some b16 ≠ row) (h2 : some b11 ≠ row) : S2 b16 b11 C16 C11 wx := ⟨Blk.grown h.1 hg h1, Blk.grown h.2 hg h2⟩

theorem own_form {w : World} {base : Nat} {e : TypeId} {size : Nat} {v : Value} {n : Nat} {xs : List Value} (h : w.ownsRow base e size v n xs) : ∃ a c, v = .slice a n c := by
  obtain ⟨_, ⟨rfl, rfl⟩ | ⟨g, cap, cur, rfl, _⟩⟩ := h
  · exact ⟨_, _, rfl⟩
  · exact ⟨_, _, rfl⟩

abbrev rc4 (a i : ByteArray) (st : Int) (cv : Value) : Array Value := #[.string a, .string i, .int .i64 st, cv]

set_option maxHeartbeats 4000000 in
set_option maxRecDepth 100000 in
theorem reg16 (R U M1 M2 gr gw L1 c1 L2 c2 i : Nat) (aor wrt : ByteArray) (m1 m2 : ByteArray → Option Value) (pid : Nat) (a2 : Option Addr) (l2 k2 : Nat) (bv : Value) (n : Nat) (B : Nat → Bd) (N st : Int) (w : World) (hst : Hid (st = if l2 = 0 then 2 else 1))
    (hi1 : i < L1) (hi2 : i < L2) (hn : n ≤ 1048576) (hB : Hid (∀ k, k < n → (B k).ok)) (hN : -1125899906842624 < N ∧ N < 1125899906842624) (hpid : pid < 18446744073709551616)
    (htab : Hid (Lib.TabIs Ybad.prog w Ybad.powName .u64 Lib.pow10Tab))
    (u2 : w.cell? ⟨U, 2, none⟩ = some (.slice (some ⟨gr, 0, none⟩) L1 c1)) (u3 : w.cell? ⟨U, 3, none⟩ = some (.slice (some ⟨gw, 0, none⟩) L2 c2))
    (ca : w.cell? ⟨gr, i, none⟩ = some (.string aor)) (cw : w.cell? ⟨gw, i, none⟩ = some (.string wrt))
    (r9 : w.cell? ⟨R, 9, none⟩ = some (.map (some M1))) (r14 : w.cell? ⟨R, 14, none⟩ = some (.map (some M2)))
    (hm1 : Hid (MapAt w M1 m1)) (hm2 : Hid (MapAt w M2 m2)) (hp : Hid ((m1 aor).getD (.agg #[.int .u64 0, .slice none 0 0]) = .agg #[.int .u64 (pid : Int), .slice none 0 0])) (hl : Hid ((m2 aor).getD (.slice none 0 0) = .slice a2 l2 k2))
    (ho : Hid (w.ownsRow 0 86 15 bv n (rows (fun k => (B k).cells.toList) n))) :
    Calls Ybad.prog 16 #[.pointer (some ⟨R, 0, none⟩), .pointer (some ⟨U, 0, none⟩), .int .i64 (i : Int), bv, .int .i64 2, .agg (tc (tS N) (tN N))] w fun e w' =>
      ∃ cv, e = .returned (.agg (rc4 wrt ({ data := #[114] } ++ num pid) st cv)) ∧ Below w.heap.size w w' ∧ w'.ownsRow w.heap.size 102 5 cv n (rows (fun k => ((B k).contact N).toList) n) ∧ (n = 0 → cv = .slice none 0 0) := by
  have hi0 : (0 : Int) ≤ (i : Int) := Int.natCast_nonneg _
  have hi1' : (i : Int) < (L1 : Int) := by omega
  have hi2' : (i : Int) < (L2 : Int) := by omega
  obtain ⟨ba, cap, bb, rfl, ix, hat, _, _⟩ := own_view Ybad.underlying72 Ybad.sizeOf86 (size := 15) (fun i => rfl) ho.out
  have IX := hide ix
  have HAT := hide hat
  clear ix hat ho
  obtain ⟨W0, hW, hsz, hbw, H11, H12⟩ := two_boxes w (tc (tS N) (tN N)) (rc4 { data := #[] } { data := #[] } 0 (.slice none 0 0)) 33 98
  have HW := hide hW
  have HB := hide hbw
  have HSZ := hide hsz
  have HH11 := hide H11
  have HH12 := hide H12
  have HT := hide (tab_below htab.out hbw)
  have HTW := hide htab.out
  have U2 : ∀ wx, Below W0.heap.size W0 wx → wx.cell? ⟨U, 2, none⟩ = some (.slice (some ⟨gr, 0, none⟩) L1 c1) := fun wx hx => cell_kept (cell_kept u2 HB.out) hx
  have U3 : ∀ wx, Below W0.heap.size W0 wx → wx.cell? ⟨U, 3, none⟩ = some (.slice (some ⟨gw, 0, none⟩) L2 c2) := fun wx hx => cell_kept (cell_kept u3 HB.out) hx
  have CA : ∀ wx, Below W0.heap.size W0 wx → wx.cell? ⟨gr, i, none⟩ = some (.string aor) := fun wx hx => cell_kept (cell_kept ca HB.out) hx
  have CW : ∀ wx, Below W0.heap.size W0 wx → wx.cell? ⟨gw, i, none⟩ = some (.string wrt) := fun wx hx => cell_kept (cell_kept cw HB.out) hx
  have R9 : ∀ wx, Below W0.heap.size W0 wx → wx.cell? ⟨R, 9, none⟩ = some (.map (some M1)) := fun wx hx => cell_kept (cell_kept r9 HB.out) hx
  have R14 : ∀ wx, Below W0.heap.size W0 wx → wx.cell? ⟨R, 14, none⟩ = some (.map (some M2)) := fun wx hx => cell_kept (cell_kept r14 HB.out) hx
  have LK : ∀ wx, Below W0.heap.size W0 wx → (Instr.lookup 48 (.map (some M1)) (.string aor) false).run Ybad.prog wx = .ok (.agg #[.int .u64 (pid : Int), .slice none 0 0]) wx := fun wx hx => by rw [look48 ((hm1.out.kept HB.out).kept hx), hp.out]
  have LK2 : ∀ wx, Below W0.heap.size W0 wx → (Instr.lookup 49 (.map (some M2)) (.string aor) false).run Ybad.prog wx = .ok (.slice a2 l2 k2) wx := fun wx hx => by rw [look49 ((hm2.out.kept HB.out).kept hx), hl.out]
  have K19 : Hid (∀ wx, Below W0.heap.size W0 wx → Calls Ybad.prog 19 #[.int .u64 (pid : Int), .int .i64 10] wx fun e w' => e = .returned (.string (num pid)) ∧ Below W0.heap.size W0 w' ∧ Hid (Below wx.heap.size wx w')) := by
    intro wx hx
    refine (fmt19 pid hpid wx (hide (tab_below HT.out hx))).mono ?_
    rintro e w' ⟨rfl, hb'⟩
    exact ⟨rfl, hx.trans (hb'.mono hx.size), hb'⟩
  have hb0 := Below.refl W0.heap.size W0
  have hns := num_size hpid
  have hfl := field71 (pid : Int)
  have hif : 1 + (num pid).size ≤ 9223372036854775807 := by omega
  clear hW hsz hbw H11 H12 u2 u3 ca cw r9 r14 hm1 hm2 hp hl htab
  go_enter Ybad.func16, Ybad.ntmps16
  go_upto_region 1 with fail
  rw [← HW.out]
  have q1 := U2 W0 hb0
  have q2 := CA W0 hb0
  go_upto_region 2 with fail
  clear q1 q2
  go_cut [14] (fun v14 wc => ∃ b14, v14 = .pointer (some ⟨b14, 0, none⟩) ∧ W0.heap.size ≤ b14 ∧ Below W0.heap.size W0 wc ∧ Blk wc b14 (rc4 wrt ({ data := #[114] } ++ num pid) 1 (.slice none 0 0)) 98)
  case first =>
    go_region_held (fun w' => Below W0.heap.size W0 w')
      (repeat' (first | assumption | apply Below.drew | apply below_alloc | apply below_set | exact Nat.le_refl _ | exact Below.size (by assumption)))
      (first | (go_at_call 19; refine (K19.out _ (by repeat' (first | assumption | apply Below.drew | apply below_alloc))).mono ?_; rintro e w5 ⟨rfl, hb5, hb6⟩; try (
        have D5 : Blk w5 W0.heap.size (rc4 { data := #[] } { data := #[] } 0 (.slice none 0 0)) 98 := Blk.kept (w := (W0.alloc (.cells (rc4 { data := #[] } { data := #[] } 0 (.slice none 0 0)) 98)).drew) (Blk.made W0 _ _) hb6.out
        have d0 := D5.cell 0 _ rfl
        have d1 := D5.cell 1 _ rfl
        have d2 := D5.cell 2 _ rfl
        have d3 := D5.cell 3 _ rfl
        have f0 := D5.frozen 0
        have f1 := D5.frozen 1
        have f2 := D5.frozen 2
        have f3 := D5.frozen 3
        have HD5 := hide D5
        clear D5)))
    all_goals
      clear U2 U3 CA CW R9 R14 LK LK2
      go_wp2
      go_meet
    all_goals first
      | exact ⟨W0.heap.size, rfl, Nat.le_refl _, by assumption, (((HD5.out.set 0 _).set 1 _).set 2 _).set 3 _⟩
      | exact ⟨w5.heap.size, rfl, hb5.size, by assumption, Blk.made _ _ _⟩
  case rest =>
    obtain ⟨b14, rfl, hb14, hbc, hk14⟩ := hcut
    have q1 := R14 wc hbc
    have q2 := LK2 wc hbc
    have HBC := hide hbc
    have HK := hide hk14
    have HB14 := hide hb14
    have k12 := hide (HH12.out.kept hbc)
    clear U2 U3 CA CW R9 R14 LK LK2 K19 hb0 hns hif hfl hbc hk14 hb14
    go_upto_if 48 with fail
    clear q1 q2
    go_cut [] (fun wd => Below W0.heap.size W0 wd ∧ Blk wd b14 (rc4 wrt ({ data := #[114] } ++ num pid) st (.slice none 0 0)) 98)
    case first =>
      have f2 := HK.out.frozen 2
      have c2 := HK.out.cell 2 _ rfl
      by_cases h0 : l2 = 0
      · subst h0
        go_wp2
        go_meet
        case rel => exact ⟨HBC.out.setCell (by exact HB14.out) _, by rw [hst.out, if_pos (by trivial)]; exact HK.out.set 2 _⟩
      · have hd : ((l2 : Int) == 0) = false := by simp; omega
        go_wp2
        go_meet
        case rel => exact ⟨HBC.out, by rw [hst.out, if_neg h0]; exact HK.out⟩
    case rest =>
      obtain ⟨hbd, hkd⟩ := hcut
      have HBD := hide hbd
      have HKD := hide hkd
      have HD12 := hide (HH12.out.kept hbd)
      have HD11 := hide (HH11.out.kept hbd)
      have HBW := hide (HB.out.trans (hbd.mono HB.out.size))
      have hlt : b14 < wc.heap.size := hkd.lt
      have hlt2 : w.heap.size + 1 < wc.heap.size := HD12.out.lt
      have hle : w.heap.size + 2 ≤ b14 := by have := HB14.out; have := HSZ.out; omega
      clear hbd hkd
      have hle3 : w.heap.size ≤ wc.heap.size := by omega
      clear HK HBC k12
      obtain ⟨i0, hi, hz0, hz1, hz2⟩ := info_parts info102
      go_upto_block 0 with fail
      go_cut [] (fun we => ∃ cv, Below w.heap.size w we ∧ Blk we (w.heap.size + 1) (rc4 { data := #[] } { data := #[] } 0 (.slice none 0 0)) 98 ∧ Blk we b14 (rc4 wrt ({ data := #[114] } ++ num pid) st cv) 98 ∧ we.ownsRow wc.heap.size 102 5 cv n (rows (fun k => ((B k).contact N).toList) n) ∧ (n = 0 → cv = .slice none 0 0))
      case first =>
        go_wp2_with fail
        go_loopg [53] n (fun g s53 wr => ∃ k : Nat, k ≤ n ∧ n - k ≤ g ∧ s53 = .int .i64 k ∧ ∃ cv, Below w.heap.size w wr ∧ wc.heap.size ≤ wr.heap.size ∧ Blk wr w.heap.size (tc (tS N) (tN N)) 33 ∧ Blk wr (w.heap.size + 1) (rc4 { data := #[] } { data := #[] } 0 (.slice none 0 0)) 98 ∧ Blk wr b14 (rc4 wrt ({ data := #[114] } ++ num pid) st cv) 98 ∧ wr.ownsRow wc.heap.size 102 5 cv k (rows (fun k => ((B k).contact N).toList) k) ∧ (k = 0 → cv = .slice none 0 0))
        case atStart => exact ⟨0, Nat.zero_le _, by omega, rfl, .slice none 0 0, HBW.out, Nat.le_refl _, HD11.out, HD12.out, HKD.out, World.ownsRow_nil _ _ _ _, fun _ => rfl⟩
        case round =>
          obtain ⟨k, hk, hg, rfl, cv, e1, e2, e3, e4, e5, e6, e7⟩ := hrel
          by_cases hkn : k < n
          · have hBk := hB.out k hkn
            have j1 : ∀ wx, Sem.run Ybad.prog (Instr.indexAt 72 (.slice ba n cap) (.int .i64 (k : Int))) wx = .ok (.pointer (some ⟨bb, k * 15, none⟩)) wx := IX.out k hkn
            have hat : At wr n bb (fun k => k * 15) (fun k => (B k).cells.toList) := HAT.out.kept e1
            have K20 : Hid (∀ wx, Hid (Below w.heap.size w wx) → Calls Ybad.prog 20 #[.agg (B k).cells, .agg (tc (tS N) (tN N))] wx fun e w' => e = .returned (.agg ((B k).contact N)) ∧ Hid (Below wx.heap.size wx w')) := fun wx hx => infoBd (B k) hBk N hN wx (hide (tab_below HTW.out hx.out))
            have hw0 := hide (show (B k).cells = bc ((B k).id : Int) (B k).ev (B k).uri (tS (red (B k).ex)) (tN (red (B k).ex)) from rfl)
            have hw1 := hide (show (B k).contact N = cc ({ data := #[99] } ++ num (B k).id) (cst (B k).ev) (B k).ev (cex (B k).ev (red (B k).ex - N)) (B k).uri from rfl)
            rw [hw0.out] at K20
            rw [hw1.out] at K20
            have hrows : Hid (rows (fun k => ((B k).contact N).toList) (k + 1) = rows (fun k => ((B k).contact N).toList) k ++ (cc ({ data := #[99] } ++ num (B k).id) (cst (B k).ev) (B k).ev (cex (B k).ev (red (B k).ex - N)) (B k).uri).toList) := rfl
            have hatk : ∀ t u, (bc ((B k).id : Int) (B k).ev (B k).uri (tS (red (B k).ex)) (tN (red (B k).ex))).toList[t]? = some u → wr.cell? ⟨bb, k * 15 + t, none⟩ = some u := fun t u hu => hat k hkn t u hu
            clear hat hw0 hw1 hBk
            generalize tS (red (B k).ex) = sX at *
            generalize tN (red (B k).ex) = nX at *
            generalize ({ data := #[99] } ++ num (B k).id : ByteArray) = tX at *
            generalize cst (B k).ev = cX at *
            generalize cex (B k).ev (red (B k).ex - N) = dX at *
            generalize (B k).id = iX at *
            generalize (B k).ev = vX at *
            generalize (B k).uri = uX at *
            generalize hrk1 : rows (fun k => ((B k).contact N).toList) (k + 1) = rk1 at *
            have HRK := hide hrk1
            clear hrk1
            generalize rows (fun k => ((B k).contact N).toList) k = rk at *
            have hlt3 : wc.heap.size ≤ wr.heap.size := e2
            have n1 : ¬ b14 = wr.heap.size := by omega
            have n2 : ¬ b14 = w.heap.size := by omega
            have F1 : Hid (∀ W1, W1 = wr.alloc (.cells (bc (iX : Int) vX uX sX nX) 86) → S2 wr.heap.size w.heap.size (bc (iX : Int) vX uX sX nX) (tc (tS N) (tN N)) W1 ∧ Below w.heap.size w W1 ∧ W1.heap.size = wr.heap.size + 1 ∧ Blk W1 (w.heap.size + 1) (rc4 { data := #[] } { data := #[] } 0 (.slice none 0 0)) 98 ∧ Blk W1 b14 (rc4 wrt ({ data := #[114] } ++ num pid) st cv) 98 ∧ W1.ownsRow wc.heap.size 102 5 cv k rk) := by
              rintro W1 rfl
              exact ⟨⟨Blk.made wr _ _, e3.alloc _⟩, e1.alloc e1.size _, by simp, e4.alloc _, e5.alloc _, e6.alloc _⟩
            have g0 : wr.cell? ⟨bb, k * 15, none⟩ = some (.string { data := #[] }) := hatk 0 _ rfl
            have g1 := hatk 1 _ rfl
            have g2 := hatk 2 _ rfl
            have g3 := hatk 3 _ rfl
            have g4 := hatk 4 _ rfl
            have g5 := hatk 5 _ rfl
            have g6 := hatk 6 _ rfl
            have g7 := hatk 7 _ rfl
            have g8 := hatk 8 _ rfl
            have g9 := hatk 9 _ rfl
            have g10 := hatk 10 _ rfl
            have g11 := hatk 11 _ rfl
            have g12 := hatk 12 _ rfl
            have g13 := hatk 13 _ rfl
            have g14 := hatk 14 _ rfl
            have H1 := hide e1
            clear e1 e2 e3 e4 e5 e6 e7 hatk
            go_upto_block 1 with fail
            go_cut [] (fun wf => ∃ cv', Below w.heap.size w wf ∧ wc.heap.size ≤ wf.heap.size ∧ Blk wf w.heap.size (tc (tS N) (tN N)) 33 ∧ Blk wf (w.heap.size + 1) (rc4 { data := #[] } { data := #[] } 0 (.slice none 0 0)) 98 ∧ Blk wf b14 (rc4 wrt ({ data := #[114] } ++ num pid) st cv') 98 ∧ wf.ownsRow wc.heap.size 102 5 cv' (k + 1) rk1)
            case first =>
              go_upto_region 8 with fail
              clear g0 g1 g2 g3 g4 g5 g6 g7 g8 g9 g10 g11 g12 g13 g14 j1
              generalize hW1 : wr.alloc (.cells (bc (iX : Int) vX uX sX nX) 86) = W1
              obtain ⟨d1, d2, d3, d4, d5, d6⟩ := F1.out W1 hW1.symm
              clear F1 hW1
              have hc3 := d5.cell 3 _ rfl
              have D2 := hide d2
              have D3 := hide d3
              have D4 := hide d4
              have D5 := hide d5
              have D6 := hide d6
              clear d2 d3 d4 d5 d6
              have hfz : Hid (∀ i, W1.frozen? ⟨b14, i, none⟩ = false) := fun i => D5.out.frozen i
              have K20' : Hid (Calls Ybad.prog 20 #[.agg (bc (iX : Int) vX uX sX nX), .agg (tc (tS N) (tN N))] W1.drew fun e w' => e = .returned (.agg (cc tX cX vX dX uX)) ∧ S2 wr.heap.size w.heap.size (bc (iX : Int) vX uX sX nX) (tc (tS N) (tN N)) w' ∧ w'.cell? ⟨b14, 3, none⟩ = some cv ∧ (∀ o, (w'.alloc o).cell? ⟨b14, 3, none⟩ = some cv) ∧ Hid (Below W1.heap.size W1 w')) := by
                refine (K20.out W1.drew (hide D2.out.drew)).mono ?_
                rintro e w' ⟨rfl, hb'⟩
                have hb2 : Below W1.heap.size W1 w' := (Below.refl _ W1).drew.trans hb'.out
                exact ⟨rfl, d1.kept hb2, (D5.out.kept hb2).cell 3 _ rfl, fun o => ((D5.out.kept hb2).alloc o).cell 3 _ rfl, hb2⟩
              have g0 := Blk.cell d1.1 0 _ rfl
              have g1 := Blk.cell d1.1 1 _ rfl
              have g2 := Blk.cell d1.1 2 _ rfl
              have g3 := Blk.cell d1.1 3 _ rfl
              have g4 := Blk.cell d1.1 4 _ rfl
              have g5 := Blk.cell d1.1 5 _ rfl
              have g6 := Blk.cell d1.1 6 _ rfl
              have g7 := Blk.cell d1.1 7 _ rfl
              have g8 := Blk.cell d1.1 8 _ rfl
              have g9 := Blk.cell d1.1 9 _ rfl
              have g10 := Blk.cell d1.1 10 _ rfl
              have g11 := Blk.cell d1.1 11 _ rfl
              have g12 := Blk.cell d1.1 12 _ rfl
              have g13 := Blk.cell d1.1 13 _ rfl
              have g14 := Blk.cell d1.1 14 _ rfl
              have a0 := Blk.cell d1.2 0 _ rfl
              have a1 := Blk.cell d1.2 1 _ rfl
              have a2 := Blk.cell d1.2 2 _ rfl
              have hf3 := D5.out.frozen 3
              go_region_law (first
                  | (go_simp; go_at_call 20; refine K20'.out.mono ?_; rintro e w5 ⟨rfl, hs5, hc5, hc6, hb5⟩; dsimp only)
                  | (refine step_append_lies _ (by rfl) _ _ _ (by rfl) wc.heap.size 102 i0 _ 5 56 Ybad.underlying96 hi hz0 hz1 hz2 rfl (by decide) cv k rk (by rfl) ((own_kept D6.out hb5.out).alloc _) ⟨w5.heap.size, 0, none⟩ 1 1 (cc tX cX vX dX uX).toList (by rfl) (by rfl) (World.news_of_block (cs := cc tX cX vX dX uX) (t := 102) (fr := (0, 0)) (heap_alloc_new w5 _)) (by simp [Value.oneCell']) (by omega) (by unfold maxLen; omega) (by omega) (by have := hb5.out.size; have := D3.out; simp; omega) (w5.heap.size + 1) (by simp) ?_; intro gg cap' w7 hown7 hgrow7 hat7 hlt7; have hk7 : Hid (Blk w7 b14 (rc4 wrt ({ data := #[114] } ++ num pid) st cv) 98) := ((D5.out.kept hb5.out).alloc _).grown hgrow7 (own_ne D6.out hlt); have hc7 := hk7.out.cell 3 _ rfl; have hf7 := hk7.out.frozen 3))
              all_goals
                go_wp2
                go_meet
              all_goals
                have hp5 := D2.out.trans (hb5.out.mono D2.out.size)
                have hsz5 : wr.heap.size + 1 ≤ w5.heap.size := by have := hb5.out.size; have := D3.out; omega
                refine ⟨_, ((hp5.alloc hp5.size _).grown hgrow7 (by simp; omega) (fun j hj => by have := (D6.out.lt j hj).1; omega)).setCell (by show w.heap.size ≤ b14; omega) _, ?_, ?_, ?_, hk7.out.set 3 _, ?_⟩
                · have := hgrow7.size
                  simp at this ⊢
                  omega
                · exact (((Blk.kept d1.2 hb5.out).alloc _).grown hgrow7 (own_ne D6.out (by omega))).other _ _ _ (fun e => n2 e.symm)
                · exact (((D4.out.kept hb5.out).alloc _).grown hgrow7 (own_ne D6.out (by omega))).other _ _ _ (by omega)
                · rw [hrows.out]
                  exact own_set hown7 hlt _
            case rest =>
              obtain ⟨cv', e1, e2, e3, e4, e5, e6⟩ := hcut
              have E1 := hide e1
              have E2 := hide e2
              have E3 := hide e3
              have E4 := hide e4
              have E5 := hide e5
              have E6 := hide e6
              clear e1 e2 e3 e4 e5 e6
              go_wp2
              go_roundg (n - (k + 1))
              case measure => omega
              case rel => exact ⟨k + 1, by omega, by omega, by go_num, cv', E1.out, E2.out, E3.out, E4.out, E5.out, by rw [HRK.out]; exact E6.out, fun h => by omega⟩
          · have : k = n := by omega
            subst this
            have E1 := hide e1
            have E4 := hide e4
            have E5 := hide e5
            have E6 := hide e6
            have E7 := hide e7
            clear e1 e3 e4 e5 e6 e7
            go_wp2
            go_meet
            case rel => exact ⟨cv, E1.out, E4.out, E5.out, E6.out, E7.out⟩
      case rest =>
        obtain ⟨cv, e1, e4, e5, e6, e7⟩ := hcut
        obtain ⟨cva, cvc, rfl⟩ := own_form e6
        have E1 := hide e1
        have E4 := hide e4
        have E6 := hide e6
        have E7 := hide e7
        have c0 := e5.cell 0 _ rfl
        have c1' := e5.cell 1 _ rfl
        have c2' := e5.cell 2 _ rfl
        have c3 := e5.cell 3 _ rfl
        have d0 := e4.cell 0 _ rfl
        have d1 := e4.cell 1 _ rfl
        have d2 := e4.cell 2 _ rfl
        have d3 := e4.cell 3 _ rfl
        have f0 := e4.frozen 0
        have f1 := e4.frozen 1
        have f2 := e4.frozen 2
        have f3 := e4.frozen 3
        have n3 : ¬ b14 = w.heap.size + 1 := by omega
        clear e1 e4 e5 e6 e7
        go_wp2
        refine bodyPost_ret (v := .agg (rc4 wrt ({ data := #[114] } ++ num pid) st (.slice cva n cvc))) ?_ rfl ⟨_, rfl, ?_, ?_, E7.out⟩
        · exact results16 _ _ _ _ _ _ _ rfl ((((E4.out.set 0 _).set 1 _).set 2 _).set 3 _)
        · exact (((E1.out.setCell (by show w.heap.size ≤ w.heap.size + 1; omega) _).setCell (by show w.heap.size ≤ w.heap.size + 1; omega) _).setCell (by show w.heap.size ≤ w.heap.size + 1; omega) _).setCell (by show w.heap.size ≤ w.heap.size + 1; omega) _
        · refine World.ownsRow.mono ?_ hle3
          have o1 := own_set E6.out (a := ⟨w.heap.size + 1, 0, none⟩) hlt2 (.string wrt)
          have o2 := own_set o1 (a := ⟨w.heap.size + 1, 1, none⟩) hlt2 (.string ({ data := #[114] } ++ num pid))
          have o3 := own_set o2 (a := ⟨w.heap.size + 1, 2, none⟩) hlt2 (.int .i64 st)
          exact own_set o3 (a := ⟨w.heap.size + 1, 3, none⟩) hlt2 (.slice cva n cvc)
end Go.Proofs.YbulkeeoiDoor

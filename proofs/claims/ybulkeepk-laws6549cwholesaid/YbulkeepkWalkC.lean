import Derived.Test.YbulkeepkCopy
import Derived.Test.YbulkeepkOpen
import Derived.Laws.Externs
namespace Go.Proofs.Ybulkeepk.Hp
open Go.RowKit
set_option linter.unusedVariables false

theorem PlaceOf.step {n i : Nat} {e p : Nat → Nat} (h : PlaceOf i e p) {m : Nat} (hF : Inj m e) (hi : i < m) : PlaceOf (i + 1) e (fun v => if v = e i then i + 1 else p v) := by
  refine ⟨fun j hj => ?_, fun v hv => ?_⟩
  · by_cases e1 : j = i
    · subst e1; simp
    · have hne : ¬ e j = e i := fun e2 => e1 (hF _ _ (by omega) hi e2)
      simp only [if_neg hne]
      exact h.1 j (by omega)
  · have hne : ¬ v = e i := fun e1 => hv i (by omega) e1.symm
    simp only [if_neg hne]
    exact h.2 v fun j hj => hv j (by omega)
theorem cells_step {w : World} {b n : Nat} {p : Nat → Nat} (ht : w.there b 0 n) (h : ∀ v, v < n → w.cell? ⟨b, v, none⟩ = some (.int .i64 (p v : Int))) (x i : Nat) (hx : x < n) :
    ∀ v, v < n → (w.setCell ⟨b, x, none⟩ (.int .i64 ((i : Int) + 1))).cell? ⟨b, v, none⟩ = some (.int .i64 (((if v = x then i + 1 else p v) : Nat) : Int)) := by
  intro v hv
  by_cases e1 : v = x
  · subst e1
    simp only [if_pos]
    exact World.cell?_setCell_same _ _ _ (h v hv)
  · simp only [if_neg e1]
    exact cell_set (h v hv) (by omega)

theorem bits15 (b : Nat) (w : World) : Sem.run Yba.prog (callFunc 15 #[.float .f64 b]) w = .ok (.value (.int .u64 (b : Int))) w := by
  rw [run_callFunc_extern Yba.func15 (by kernel_rfl) (by kernel_rfl) (by kernel_rfl) (e := Extern.MathFloatBits.float64bits) (by kernel_rfl)]
  rfl
theorem cell_row {w : World} {b i : Nat} {C : Array Value} {t : TypeId} {v : Value} (hb : w.heap[b]? = some (.cells C t (0, 0))) (h : C[i]? = some v) : w.cell? ⟨b, i, none⟩ = some v := by
  simp [World.cell?, hb, h]
theorem there_below {w w' : World} {b n B : Nat} (h : w.there b 0 n) (hb : Below B w w') (hlt : b < B) : w'.there b 0 n := by
  intro j hj
  have h' := h j hj
  refine ⟨?_, ?_⟩
  · rw [hb.cell (by exact hlt)]; exact h'.1
  · have hbb := hb.block b hlt
    simp only [World.frozen?, hbb]
    exact h'.2
theorem cell_lo {w w' : World} {b i B : Nat} {v : Value} (h : w.cell? ⟨b, i, none⟩ = some v) (hb : Below B w w') (hlt : b < B) : w'.cell? ⟨b, i, none⟩ = some v := by
  rw [hb.cell (by exact hlt)]; exact h

set_option maxHeartbeats 4000000 in
set_option maxRecDepth 100000 in
theorem walkC (n cap0 ab ao : Nat) (A : Nat → Nat) (a1 : Option Addr) (len1 cap1 sb so : Nat) (sd : Nat → Int) (jn : Nat → Nat) (a2 a3 : Int) (w : World) (m k : Nat)
    (hn : n ≤ 65536) (hn0 : 0 < n) (hab : ab < w.heap.size) (p2 : 0 ≤ a2) (p2' : a2 ≤ 4294967295) (p3 : 0 ≤ a3) (p3' : a3 ≤ 4294967295)
    (hm : Hid (1 + a2 % (n : Int) = (m : Int))) (hk : Hid (a3 % (m : Int) = (k : Int))) (hm0 : 0 < m) (hmn : m ≤ n) (hkm : k < m)
    (ix : Hid (∀ i, i < n → ∀ wx, Sem.run Yba.prog (Instr.indexAt 56 (.slice (some ⟨ab, ao, none⟩) n cap0) (.int .i64 (i : Int))) wx = .ok (.pointer (some ⟨ab, ao + i, none⟩)) wx))
    (hA : Hid (∀ i, i < n → w.cell? ⟨ab, ao + i, none⟩ = some (.float .f64 (A i))))
    (ix1 : Hid (∀ i, i < len1 → ∀ wx, Sem.run Yba.prog (Instr.indexAt 57 (.slice a1 len1 cap1) (.int .i64 (i : Int))) wx = .ok (.pointer (some ⟨sb, so + i, none⟩)) wx))
    (hs : Hid (∀ i, i < len1 → w.cell? ⟨sb, so + i, none⟩ = some (.int .u32 (sd i)) ∧ 0 ≤ sd i ∧ sd i ≤ 4294967295))
    (hj : Hid (∀ i, i < len1 → sd i % ((i : Int) + 1) = (jn i : Int) ∧ jn i ≤ i)) :
    Calls Yba.prog 5 #[.slice (some ⟨ab, ao, none⟩) n cap0, .slice a1 len1 cap1, .int .u32 a2, .int .u32 a3] w fun e w' => e = .returned (.bool true) ∧ Below w.heap.size w w' := by
  have mk0 := fun wx => run_make22 wx n hn
  go_enter Yba.func5, Yba.ntmps5
  go_upto_block 0 with fail
  go_cut [] (fun wc => Below w.heap.size w wc ∧ wc.heap.size = w.heap.size + 1 ∧ wc.there w.heap.size 0 n ∧ ∀ j, j < n → wc.cell? ⟨w.heap.size, j, none⟩ = some (.int .i64 (j : Int)))
  case first =>
    go_wp2_with fail
    go_loopg [11] n (fun g s11 wr => ∃ k : Nat, k ≤ n ∧ n - k ≤ g ∧ s11 = .int .i64 k ∧ Hid (Below w.heap.size w wr) ∧ Hid (wr.heap.size = w.heap.size + 1) ∧ Hid (wr.there w.heap.size 0 n) ∧ Hid (∀ j, j < k → wr.cell? ⟨w.heap.size, j, none⟩ = some (.int .i64 (j : Int))))
    case atStart => exact ⟨0, Nat.zero_le _, by omega, rfl, (Below.refl _ _).alloc (Nat.le_refl _) _, by show _ = _; simp, there_made _ _ _ _, fun j hj => by omega⟩
    case round =>
      obtain ⟨k, hk, hg, rfl, HB, HZ, HT, HE⟩ := hrel
      by_cases hlt : k < n
      · obtain ⟨v, cv⟩ := there_cell HT.out k hlt
        have fv := there_frozen HT.out k hlt
        go_wp2
        go_roundg (n - (k + 1))
        case measure => omega
        case rel =>
          refine ⟨k + 1, by omega, by omega, by go_num, HB.out.setCell (Nat.le_refl _) _, by show _ = _; rw [← HZ.out]; simp [World.setCell], there_set HT.out _ _ _, fun j hj => ?_⟩
          by_cases hjk : j = k
          · subst hjk
            exact World.cell?_setCell_same _ _ _ cv
          · exact cell_set (HE.out j (by omega)) (by omega)
      · have : k = n := by omega
        subst this
        go_wp2
        go_meet
        case rel => exact ⟨HB.out, HZ.out, HT.out, HE.out⟩
  case rest =>
    obtain ⟨B1, Z1, T1, E1⟩ := hcut
    have HB1 := hide B1
    have HZ1 := hide Z1
    have HT1 := hide T1
    have HE1 := hide E1
    clear B1 Z1 T1 E1
    go_upto_block 2 with fail
    go_cut [] (fun w2 => Below w.heap.size w w2 ∧ w2.heap.size = w.heap.size + 1 ∧ ∃ e, Fits n n e ∧ ∀ j, j < n → w2.cell? ⟨w.heap.size, j, none⟩ = some (.int .i64 (e j : Int)))
    case first =>
      go_wp2_with fail
      go_loopg [12] n (fun g s12 wr => ∃ (k : Nat) (e : Nat → Nat), 1 ≤ k ∧ k ≤ n ∧ n - k ≤ g ∧ s12 = .int .i64 k ∧ Hid (Fits n n e) ∧ Hid (Below w.heap.size w wr) ∧ Hid (wr.heap.size = w.heap.size + 1) ∧ Hid (wr.there w.heap.size 0 n) ∧ Hid (∀ j, j < n → wr.cell? ⟨w.heap.size, j, none⟩ = some (.int .i64 (e j : Int))))
      case atStart => exact ⟨1, fun j => j, Nat.le_refl _, hn0, by omega, rfl, ⟨fun i j _ _ h => h, fun i h => h⟩, HB1, HZ1, HT1, HE1⟩
      case round =>
        obtain ⟨k, e, hk1, hk, hg, rfl, HF, HB, HZ, HT, HE⟩ := hrel
        by_cases hlt : k < n
        · by_cases hl1 : k < len1
          · obtain ⟨hjm, hjl⟩ := hj.out k hl1
            obtain ⟨hsc, hs0, hs1⟩ := hs.out k hl1
            have i1 := ix1.out k hl1
            have cs : wr.cell? ⟨sb, so + k, none⟩ = some (.int .u32 (sd k)) := cell_below hsc HB.out
            have hw32 : IntKind.u32.wrap ((k : Int) + 1) = (k : Int) + 1 := by simp [IntKind.wrap, IntKind.bits, IntKind.signed]; omega
            have hd1 : ¬ ((k : Int) + 1) = 0 := by omega
            have hjn : jn k < n := by omega
            have ck := HE.out k hlt
            have fk := there_frozen HT.out k hlt
            by_cases hjk : jn k = k
            · have htm : (sd k).tmod ((k : Int) + 1) = (k : Int) := by rw [Int.tmod_eq_emod_of_nonneg hs0, hjm, hjk]
              clear hs1 hsc hjm hjk hjl hjn
              go_wp2_with fail
              go_roundg (n - (k + 1))
              case measure => omega
              case rel =>
                refine ⟨k + 1, e, by omega, by omega, by omega, by go_num, HF, ?_, by show _ = _; rw [← HZ.out]; simp [World.setCell], there_set (there_set HT.out _ _ _) _ _ _, fun j hj => ?_⟩
                · exact (HB.out.setCell (by exact Nat.le_refl _) _).setCell (by exact Nat.le_refl _) _
                · by_cases e1 : j = k
                  · subst e1
                    exact World.cell?_setCell_same _ _ _ (World.cell?_setCell_same _ _ _ ck)
                  · exact cell_set (cell_set (HE.out j hj) (by omega)) (by omega)
            · have htm : (sd k).tmod ((k : Int) + 1) = (jn k : Int) := by rw [Int.tmod_eq_emod_of_nonneg hs0]; exact hjm
              have hwi : IntKind.i64.wrap (jn k : Int) = (jn k : Int) := by rw [IntKind.wrap_i64]; omega
              have cj := HE.out (jn k) hjn
              have fj := there_frozen HT.out (jn k) hjn
              have hkj : ¬ k = jn k := fun h => hjk h.symm
              clear hs1 hsc hjm
              go_wp2_with fail
              go_roundg (n - (k + 1))
              case measure => omega
              case rel =>
                refine ⟨k + 1, swp e k (jn k), by omega, by omega, by omega, by go_num, swp_fits HF.out hlt hjn, ?_, by show _ = _; rw [← HZ.out]; simp [World.setCell], there_set (there_set HT.out _ _ _) _ _ _, fun j hj => ?_⟩
                · exact (HB.out.setCell (by exact Nat.le_refl _) _).setCell (by exact Nat.le_refl _) _
                · simp only [swp]
                  by_cases i1 : j = k
                  · subst i1
                    rw [if_pos rfl]
                    refine cell_set ?_ (by omega)
                    exact World.cell?_setCell_same _ _ _ ck
                  · rw [if_neg i1]
                    by_cases i2 : j = jn k
                    · rw [if_pos i2, i2]
                      exact World.cell?_setCell_same _ _ _ (cell_set cj (by omega))
                    · rw [if_neg i2]
                      exact cell_set (cell_set (HE.out j hj) (by omega)) (by omega)
          · go_wp2
            go_roundg (n - (k + 1))
            case measure => omega
            case rel => exact ⟨k + 1, e, by omega, by omega, by omega, by go_num, HF, HB, HZ, HT, HE⟩
        · have : k = n := by omega
          subst this
          go_wp2
          go_meet
          case rel => exact ⟨HB.out, HZ.out, e, HF.out, HE.out⟩
    case rest =>
      obtain ⟨B2, Z2, e, F2, E2⟩ := hcut
      have HB2 := hide B2
      have HZ2 := hide Z2
      have HF2 := hide F2
      have HE2 := hide E2
      clear B2 Z2 F2 E2 HB1 HZ1 HT1 HE1 mk0
      have mk1 := fun wx => run_make56 wx n hn
      have hwn : IntKind.u32.wrap (n : Int) = (n : Int) := by simp [IntKind.wrap, IntKind.bits, IntKind.signed]; omega
      have hnz : ¬ (n : Int) = 0 := by omega
      have htm1 : a2.tmod (n : Int) = (m : Int) - 1 := by rw [Int.tmod_eq_emod_of_nonneg p2]; have := hm.out; omega
      have hwm1 : IntKind.i64.wrap ((m : Int) - 1) = (m : Int) - 1 := by rw [IntKind.wrap_i64]; omega
      have hwm2 : (1 : Int) + ((m : Int) - 1) = (m : Int) := by omega
      have hwm : IntKind.u32.wrap (m : Int) = (m : Int) := by simp [IntKind.wrap, IntKind.bits, IntKind.signed]; omega
      have hmz : ¬ (m : Int) = 0 := by omega
      have htm2 : a3.tmod (m : Int) = (k : Int) := by rw [Int.tmod_eq_emod_of_nonneg p3]; exact hk.out
      have hwk : IntKind.i64.wrap (k : Int) = (k : Int) := by rw [IntKind.wrap_i64]; omega
      have HA2 : Hid (∀ i, i < n → wc.cell? ⟨ab, ao + i, none⟩ = some (.float .f64 (A i))) := fun i hi => cell_below (hA.out i hi) HB2.out
      go_wp2_with (refine wpList_copy1 rfl 56 66 Yba.underlying56 size66 (.tmp 91) (.tmp 92) rfl wc.heap.size n n rfl ab ao cap0 rfl (fun i => .float .f64 (A i)) ?q1 ?q2 ?q3 ?_)
      case q1 => exact fun i hi => rfl
      case q2 => exact fun i hi => Lib.cell?_alloc_some _ (HA2.out i hi)
      case q3 => exact there_made _ _ _ _
      intro w3 hB3 hZ3 hT3 hE3
      have HB3 : Hid (Below w.heap.size w w3) := HB2.out.trans (((Below.refl _ _).alloc HB2.out.size _).trans (hB3.mono HB2.out.size))
      have HZ3 : Hid (w3.heap.size = w.heap.size + 2) := by show _ = _; rw [hZ3, HZ2.out]
      have HE3 : Hid (∀ j, j < n → w3.cell? ⟨w.heap.size, j, none⟩ = some (.int .i64 (e j : Int))) := fun j hj => by rw [hB3.cell (by show w.heap.size < wc.heap.size; have := HZ2.out; omega)]; exact Lib.cell?_alloc_some _ (HE2.out j hj)
      have HA3 : Hid (∀ i, i < n → w3.cell? ⟨wc.heap.size, i, none⟩ = some (.float .f64 (A i))) := hE3
      have hba := hide HZ2.out
      have l1 : w.heap.size < wc.heap.size := by have := HZ2.out; omega
      clear hB3 hZ3 hT3 hE3 HB2 HZ2 HE2 mk1 HA2
      generalize wc.heap.size = ba at hba HA3 l1 ⊢
      have mk2 := fun wx => run_make22 wx m (by omega)
      go_wp2_with (refine wpList_copy1 rfl 22 3 Yba.underlying22 size3 (.tmp 96) (.tmp 99) rfl w3.heap.size m m rfl w.heap.size 0 _ rfl (fun i => .int .i64 (e i : Int)) ?q1 ?q2 ?q3 ?_)
      case q1 => exact fun i hi => rfl
      case q2 => exact fun i hi => by rw [Nat.zero_add]; exact Lib.cell?_alloc_some _ (HE3.out i (by omega))
      case q3 => exact there_made _ _ _ _
      intro w4 hB4 hZ4 hT4 hE4
      have HB4 : Hid (Below w.heap.size w w4) := HB3.out.trans (((Below.refl _ _).alloc HB3.out.size _).trans (hB4.mono HB3.out.size))
      have HA4 : Hid (∀ i, i < n → w4.cell? ⟨ba, i, none⟩ = some (.float .f64 (A i))) := fun i hi => by rw [hB4.cell (by show ba < w3.heap.size; have := HZ3.out; have := hba.out; omega)]; exact Lib.cell?_alloc_some _ (HA3.out i hi)
      have HZ4 : Hid (w4.heap.size = w.heap.size + 3) := by show _ = _; rw [hZ4, HZ3.out]
      have hcb := hide HZ3.out
      have l2 : ba < w3.heap.size := by have := HZ3.out; have := hba.out; omega
      have HC4 := hide hE4
      have HT4 := hide hT4
      clear hB4 hZ4 hT4 hE4 HB3 HZ3 HE3 HA3
      generalize w3.heap.size = cb at hcb HC4 HT4 l2 ⊢
      have mk3 := fun wx => run_make22 wx n hn
      go_wp2_with fail
      go_loopg [20] m (fun g s20 wr => ∃ (i : Nat) (p : Nat → Nat), i ≤ m ∧ m - i ≤ g ∧ s20 = .int .i64 i ∧ Hid (PlaceOf i e p) ∧ Hid (Below w4.heap.size w4 wr) ∧ Hid (wr.heap.size = w4.heap.size + 1) ∧ Hid (wr.there w4.heap.size 0 n) ∧ Hid (∀ v, v < n → wr.cell? ⟨w4.heap.size, v, none⟩ = some (.int .i64 (p v : Int))))
      case atStart => exact ⟨0, fun _ => 0, Nat.zero_le _, by omega, rfl, ⟨fun j hj => by omega, fun _ _ => rfl⟩, (Below.refl _ _).alloc (Nat.le_refl _) _, by show _ = _; simp, there_made _ _ _ _, fun v hv => made_cell _ _ _ hv⟩
      case round =>
        obtain ⟨i, p, hi, hg, rfl, HP, HB, HZ, HT, HE⟩ := hrel
        by_cases hlt : i < m
        · have hei := HF2.out.2 i (by omega)
          have c1 : wr.cell? ⟨cb, i, none⟩ = some (.int .i64 (e i : Int)) := cell_below (HC4.out i hlt) HB.out
          obtain ⟨v, cv⟩ := there_cell HT.out (e i) hei
          have fv := there_frozen HT.out (e i) hei
          go_wp2
          go_roundg (m - (i + 1))
          case measure => omega
          case rel => exact ⟨i + 1, _, by omega, by omega, by go_num, HP.out.step (n := n) HF2.out.1 (by omega), HB.out.setCell (by exact Nat.le_refl _) _, by show _ = _; rw [← HZ.out]; simp [World.setCell], there_set HT.out _ _ _, cells_step HT.out HE.out _ _ hei⟩
        · have him : i = m := by omega
          subst him
          clear hlt hi
          have hpb := hide HZ4.out
          have l3 : cb < w4.heap.size := by have := HZ4.out; have := hcb.out; omega
          have HA5 : Hid (∀ i, i < n → wr.cell? ⟨ba, i, none⟩ = some (.float .f64 (A i))) := fun i hi => cell_below (HA4.out i hi) HB.out
          have HC5 : Hid (∀ j, j < i → wr.cell? ⟨cb, j, none⟩ = some (.int .i64 (e j : Int))) := fun j hj => cell_below (HC4.out j hj) HB.out
          have HTC5 : Hid (wr.there cb 0 i) := by
            intro j hj
            have h := HT4.out j hj
            refine ⟨?_, ?_⟩
            · rw [HB.out.cell (by exact l3)]; exact h.1
            · have hb := HB.out.block cb l3
              simp only [World.frozen?, hb]
              exact h.2
          have HB5 : Hid (Below w.heap.size w wr) := HB4.out.trans (HB.out.mono HB4.out.size)
          clear HB4 HA4 HC4 HT4 HB
          generalize w4.heap.size = pb at hpb HZ HT HE l3 ⊢
          have hF : Hid (Fits i n e) := ⟨fun s t hs ht h => HF2.out.1 s t (by omega) (by omega) h, fun s hs => HF2.out.2 s (by omega)⟩
          go_wp2_with (refine wpList_copy1 rfl 22 3 Yba.underlying22 size3 (.tmp 118) (.tmp 119) rfl wr.heap.size i i rfl cb 0 _ rfl (fun j => .int .i64 (e j : Int)) ?q1 ?q2 ?q3 ?_)
          case q1 => exact fun i hi => rfl
          case q2 => exact fun j hj => by rw [Nat.zero_add]; exact Lib.cell?_alloc_some _ (HC5.out j hj)
          case q3 => exact there_made _ _ _ _
          intro w6 hB6 hZ6 hT6 hE6
          have hB6' : Below wr.heap.size wr w6 := ((Below.refl _ _).alloc (Nat.le_refl _) _).trans hB6
          have l4 : pb < wr.heap.size := by have := HZ.out; omega
          have hxb := hide HZ.out
          have HZ6 : Hid (w6.heap.size = wr.heap.size + 1) := hZ6
          have HE6 := hide hE6
          have HT6 := hide hT6
          have HB6 := hide hB6'
          clear hB6 hZ6 hT6 hE6 hB6' mk2
          obtain ⟨R, hR⟩ : ∃ R, sift A i i e k = R := ⟨_, rfl⟩
          have HR := hide hR
          clear hR
          have HA6 : Hid (∀ j, j < n → w6.cell? ⟨ab, ao + j, none⟩ = some (.float .f64 (A j))) := fun j hj => cell_below (cell_below (hA.out j hj) HB5.out) HB6.out
          have ixe : Hid (∀ j, j < i → ∀ wx, Sem.run Yba.prog (Instr.indexAt 22 (.slice (some ⟨wr.heap.size, 0, none⟩) i i) (.int .i64 (j : Int))) wx = .ok (.pointer (some ⟨wr.heap.size, j, none⟩)) wx) := fun j hj wx => by simpa using ix22 wr.heap.size 0 i i j hj wx
          have K13 := hide (sift13 (some ⟨ab, ao, none⟩) n cap0 ab ao A (some ⟨wr.heap.size, 0, none⟩) wr.heap.size i k e R w6 (by omega) hkm (by omega) hF HR ix HA6 ixe HT6 HE6)
          go_wp2_with fail
          refine K13.out.mono ?_
          rintro e' w7 ⟨rfl, hB7, hT7, hE7⟩
          have hB67 : Below wr.heap.size wr w7 := HB6.out.trans hB7
          have l5 : wr.heap.size < w7.heap.size := by have := HZ6.out; have := hB7.size; omega
          have HA7 : Hid (∀ j, j < n → w7.cell? ⟨ba, j, none⟩ = some (.float .f64 (A j))) := fun j hj => cell_lo (HA5.out j hj) hB67 (by omega)
          have HC7 : Hid (∀ j, j < i → w7.cell? ⟨cb, j, none⟩ = some (.int .i64 (e j : Int))) := fun j hj => cell_lo (HC5.out j hj) hB67 (by omega)
          have HTC7 : Hid (w7.there cb 0 i) := there_below HTC5.out hB67 (by omega)
          have HTP7 : Hid (w7.there pb 0 n) := there_below HT.out hB67 l4
          have HP7 : Hid (∀ v, v < n → w7.cell? ⟨pb, v, none⟩ = some (.int .i64 (p v : Int))) := fun v hv => cell_lo (HE.out v hv) hB67 l4
          have HE7 := hide hE7
          have HB7 : Hid (Below w.heap.size w w7) := HB5.out.trans (hB67.mono HB5.out.size)
          have hFR : Hid (Fits i n R) := by rw [← HR.out]; exact sift_fits A i hF.out hkm
          clear hB67 hB7 hT7 hE7 HB6 HZ6 HE6 HT6 HA6 ixe K13 HB5 HA5 HC5 HTC5 HT HE
          generalize wr.heap.size = xb at hxb HE7 l4 l5 ⊢
          have mk4 := fun wx => run_make22 wx n hn
          go_wp2_with fail
          go_loopg [23] i (fun g s23 wq => ∃ (t : Nat) (p : Nat → Nat), t ≤ i ∧ i - t ≤ g ∧ s23 = .int .i64 t ∧ Hid (PlaceOf t R p) ∧ Hid (Below w7.heap.size w7 wq) ∧ Hid (wq.heap.size = w7.heap.size + 1) ∧ Hid (wq.there w7.heap.size 0 n) ∧ Hid (∀ v, v < n → wq.cell? ⟨w7.heap.size, v, none⟩ = some (.int .i64 (p v : Int))))
          case atStart => exact ⟨0, fun _ => 0, Nat.zero_le _, by omega, rfl, ⟨fun j hj => by omega, fun _ _ => rfl⟩, (Below.refl _ _).alloc (Nat.le_refl _) _, by show _ = _; simp, there_made _ _ _ _, fun v hv => made_cell _ _ _ hv⟩
          case round =>
            obtain ⟨t, p', ht, hg, rfl, HP', HB, HZ', HT, HE⟩ := hrel
            by_cases hlt : t < i
            · have hei := hFR.out.2 t hlt
              have c1 := cell_below (HE7.out t hlt) HB.out
              obtain ⟨v, cv⟩ := there_cell HT.out (R t) hei
              have fv := there_frozen HT.out (R t) hei
              go_wp2
              go_roundg (i - (t + 1))
              case measure => omega
              case rel => exact ⟨t + 1, _, by omega, by omega, by go_num, HP'.out.step (n := n) hFR.out.1 hlt, HB.out.setCell (by exact Nat.le_refl _) _, by show _ = _; rw [← HZ'.out]; simp [World.setCell], there_set HT.out _ _ _, cells_step HT.out HE.out _ _ hei⟩
            · have hti : t = i := by omega
              subst hti
              clear hlt
              have l6 : w7.heap.size < wr.heap.size := by have := HZ'.out; omega
              have SV : ∀ C : Array Value, C[0]? = some (.slice (some ⟨ba, 0, none⟩) n n) → C[1]? = some (.slice (some ⟨pb, 0, none⟩) n n) → C[2]? = some (.slice (some ⟨cb, 0, none⟩) t t) → Hm wr.heap.size ba cb pb n t (some ⟨cb, 0, none⟩) A (wr.alloc (.cells C 62)) := fun C h1 h2 h3 =>
                ⟨cell_row (top wr (.cells C 62) _ rfl) h1, cell_row (top wr (.cells C 62) _ rfl) h2, cell_row (top wr (.cells C 62) _ rfl) h3, fun j hj => Lib.cell?_alloc_some _ (cell_below (HA7.out j hj) HB.out), World.there_alloc (there_below HTC7.out HB.out (by omega)) _, World.there_alloc (there_below HTP7.out HB.out (by omega)) _⟩
              have ST : ∀ C : Array Value, St cb pb t n k e p (wr.alloc (.cells C 62)) := fun C => ⟨hF.out, fun j hj _ => Lib.cell?_alloc_some _ (cell_below (HC7.out j hj) HB.out), fun v hv => Lib.cell?_alloc_some _ (cell_below (HP7.out v hv) HB.out), fun j hj _ => HP.out.1 j hj, HP.out.2⟩
              have ixe : Hid (∀ j, j < t → ∀ wx, Sem.run Yba.prog (Instr.indexAt 22 (.slice (some ⟨cb, 0, none⟩) t t) (.int .i64 (j : Int))) wx = .ok (.pointer (some ⟨cb, j, none⟩)) wx) := fun j hj wx => by simpa using ix22 cb 0 t t j hj wx
              have HSV := hide SV
              have HST := hide ST
              clear SV ST
              go_wp2_with fail
              refine (down14 wr.heap.size ba cb pb n t k (e k) (some ⟨cb, 0, none⟩) A e p R _ (by omega) hkm l2 l3 (by omega) HR (HSV.out _ rfl rfl rfl) ixe (HST.out _) rfl (Lib.cell?_alloc_some _ (cell_below (HC7.out k hkm) HB.out))).mono ?_
              rintro e' w8 ⟨rfl, hK8, p'', hR8, hP8, hPl8⟩
              have HH8 := HSV.out #[.slice (some ⟨ba, 0, none⟩) n n, .slice (some ⟨pb, 0, none⟩) n n, .slice (some ⟨cb, 0, none⟩) t t] rfl rfl rfl
              have v0 : w8.cell? ⟨wr.heap.size, 0, none⟩ = some (.slice (some ⟨ba, 0, none⟩) n n) := by rw [hK8.2.2 _ (by show wr.heap.size ≠ cb; omega) (by show wr.heap.size ≠ pb; omega)]; exact HH8.c0
              have v1 : w8.cell? ⟨wr.heap.size, 1, none⟩ = some (.slice (some ⟨pb, 0, none⟩) n n) := by rw [hK8.2.2 _ (by show wr.heap.size ≠ cb; omega) (by show wr.heap.size ≠ pb; omega)]; exact HH8.c1
              have v2 : w8.cell? ⟨wr.heap.size, 2, none⟩ = some (.slice (some ⟨cb, 0, none⟩) t t) := by rw [hK8.2.2 _ (by show wr.heap.size ≠ cb; omega) (by show wr.heap.size ≠ pb; omega)]; exact HH8.c2
              have HX8 : Hid (∀ j, j < t → w8.cell? ⟨xb, j, none⟩ = some (.int .i64 (R j : Int))) := fun j hj => by rw [hK8.2.2 _ (by show xb ≠ cb; omega) (by show xb ≠ pb; omega)]; exact Lib.cell?_alloc_some _ (cell_below (HE7.out j hj) HB.out)
              have HQ8 : Hid (∀ v, v < n → w8.cell? ⟨w7.heap.size, v, none⟩ = some (.int .i64 (p'' v : Int))) := fun v hv => by rw [hK8.2.2 _ (by show w7.heap.size ≠ cb; omega) (by show w7.heap.size ≠ pb; omega), hPl8.same HP'.out v]; exact Lib.cell?_alloc_some _ (HE.out v hv)
              have HA8 : Hid (∀ j, j < n → w8.cell? ⟨ba, j, none⟩ = some (.float .f64 (A j))) := fun j hj => by rw [hK8.2.2 _ (by show ba ≠ cb; omega) (by show ba ≠ pb; omega)]; exact HH8.act j hj
              have HB8 : Hid (Below w.heap.size w w8) := HB7.out.trans (((HB.out.mono HB7.out.size).alloc (by omega) _).trans (hK8.1.mono (by omega)))
              have HI8 : Hid (∀ j, j < n → w8.cell? ⟨ab, ao + j, none⟩ = some (.float .f64 (A j))) := fun j hj => cell_below (hA.out j hj) HB8.out
              have HR8 := hide hR8
              have HP8 := hide hP8
              clear hK8 hR8 hP8 hPl8 HH8 HSV HST HB HZ' HT HE
              go_wp2_with fail
              go_loopg [25] t (fun g s25 wq => ∃ j q : Nat, j ≤ t ∧ t - j ≤ g ∧ s25 = .int .i64 j ∧ wq = w8.drewN q)
              case atStart => exact ⟨0, 0, Nat.zero_le _, by omega, rfl, rfl⟩
              case round =>
                obtain ⟨j, q, hj1, hg, rfl, rfl⟩ := hrel
                by_cases hlt : j < t
                · have c1 := HR8.out j hlt
                  have c2 := HX8.out j hlt
                  go_wp2_with fail
                  go_quiet (fail)
                  go_wp2
                  go_roundg (t - (j + 1))
                  case measure => omega
                  case rel => exact ⟨j + 1, _, by omega, by omega, by go_num, rfl⟩
                · have hjt : j = t := by omega
                  subst hjt
                  go_wp2_with fail
                  go_loopg [26] n (fun g s26 wq => ∃ j q : Nat, j ≤ n ∧ n - j ≤ g ∧ s26 = .int .i64 j ∧ wq = w8.drewN q)
                  case atStart => exact ⟨0, q, Nat.zero_le _, by omega, rfl, rfl⟩
                  case round =>
                    obtain ⟨v, q, hv1, hg, rfl, rfl⟩ := hrel
                    by_cases hlt : v < n
                    · have c1 := HP8.out v hlt
                      have c2 := HQ8.out v hlt
                      have c3 := HA8.out v hlt
                      have c4 := HI8.out v hlt
                      have i4 := ix.out v hlt
                      have hbits := bits15
                      go_wp2_with fail
                      go_quiet (fail)
                      go_wp2_with fail
                      go_quiet (fail)
                      go_wp2
                      go_roundg (n - (v + 1))
                      case measure => omega
                      case rel => exact ⟨v + 1, _, by omega, by omega, by go_num, rfl⟩
                    · have hvn : v = n := by omega
                      subst hvn
                      go_wp2
                      go_ret
                      exact ⟨rfl, HB8.out.trans ⟨rfl, rfl, rfl, Nat.le_refl _, fun _ _ => rfl⟩⟩
end Go.Proofs.Ybulkeepk.Hp

import Derived.Test.YbulkeeoiState
import Derived.Deep.DeepCutAuto
import Derived.Deep.CutBlock
import Derived.Deep.MidRow
import Derived.Deep.RegionHeld
namespace Go.Proofs.Ybulkeeoi
open Go.RowKit
set_option linter.unusedVariables false

set_option maxHeartbeats 4000000 in
set_option maxRecDepth 100000 in
theorem walkA (s : ByteArray) (a1 : Option Addr) (len1 cap1 : Nat) (a2 : Option Addr) (len2 cap2 : Nat) (a3 : Bool) (w : World) (kb ko bb bo : Nat) (ss : Nat → ByteArray) (U C Pr : Nat → ByteArray) (Q Id : Nat → Int)
    (h1 : len1 ≤ 4096) (h2 : len2 ≤ 1048576) (hs : s.size ≤ maxLen)
    (ix1 : Hid (∀ i, i < len1 → ∀ wx, Sem.run Yba.prog (Instr.indexAt 22 (.slice a1 len1 cap1) (.int .i64 (i : Int))) wx = .ok (.pointer (some ⟨kb, ko + i, none⟩)) wx))
    (c1 : Hid (∀ i, i < len1 → w.cell? ⟨kb, ko + i, none⟩ = some (.string (ss i)) ∧ (ss i).size ≤ maxLen))
    (ix2 : Hid (∀ i, i < len2 → ∀ wx, Sem.run Yba.prog (Instr.indexAt 23 (.slice a2 len2 cap2) (.int .i64 (i : Int))) wx = .ok (.pointer (some ⟨bb, bo + i * 5, none⟩)) wx))
    (c2 : Hid (∀ i, i < len2 → w.rangeAt bb (bo + i * 5) (rc (U i) (C i) (Pr i) (Q i) (Id i)).toList)) :
    Calls Yba.prog 3 #[.string s, .slice a1 len1 cap1, .slice a2 len2 cap2, .bool a3] w fun e w' => e = .returned (.bool true) ∧ Below w.heap.size w w' := by
  have hmm := @run_makeMap Yba.prog
  have hd1 : decide ((4096 : Int) < (len1 : Int)) = false := by simp; omega
  go_enter Yba.func3, Yba.ntmps3
  go_upto_block 0 with fail
  go_cut [] (fun wc => St w len1 len1 (Dk (kS fun i => (ss i).data.toList) (dj w.heap.size) len1) wc ∧ wc.heap.size = w.heap.size + 1 + len1)
  case first =>
    go_wp2_with fail
    go_loopg [40] len1 (fun g s40 wr => ∃ k : Nat, k ≤ len1 ∧ len1 - k ≤ g ∧ s40 = .int .i64 k ∧ Below w.heap.size w wr ∧ wr.ownsMap Yba.prog 9 RV w.heap.size k (Dk (kS fun i => (ss i).data.toList) (dj w.heap.size) k) ∧ wr.heap.size = w.heap.size + 1 + k ∧
      ∀ j, j < k → wr.heap[w.heap.size + 1 + j]? = some (.cells (bc { data := #[] } { data := #[] } { data := #[] } 0 j) 40 (0, 0)))
    case atStart =>
      refine ⟨0, Nat.zero_le _, by omega, rfl, (Below.refl _ _).alloc (Nat.le_refl _) _, World.ownsMap_made _ _ _ _, by simp, fun j hj => by omega⟩
    case round =>
      obtain ⟨k, hk, hg, rfl, hb, hown, hsz, hel⟩ := hrel
      by_cases hlt : k < len1
      · have i1 := ix1.out k hlt
        obtain ⟨ck, hks⟩ := c1.out k hlt
        have hB := hide hb
        have hE := hide hel
        have hO := hide hown
        have hck : wr.cell? ⟨kb, ko + k, none⟩ = some (.string (ss k)) := by
          rw [hb.cell (by rcases Nat.lt_or_ge kb w.heap.size with h | h; exact h; simp [World.cell?, Array.getElem?_eq_none h] at ck)]; exact ck
        clear hb hel hown ck
        go_wp2_with (first | (at_mapUpdate; refine wpList_mapUpdate_in _ rfl _ _ _ 24 rfl 9 41 law9 Yba.underlying24 RV w.heap.size k _ rfl (hO.out.alloc _) ?k1 _ _ (.string (ss k).data.toList) rfl rfl (Go.WideMaps.keyOf_string_mk Yba.underlying9 hks) _ [] rfl ?_))
        case k1 => unfold maxLen; omega
        intro w2 hown2 hturn2
        have HO2 := hide hown2
        have HT2 := hide hturn2
        clear hown2 hturn2
        go_wp2
        go_roundg (len1 - (k + 1))
        case measure => omega
        case rel =>
          have hg2 := HT2.out.grown
          have hsz2 := turned_size HT2.out
          refine ⟨k + 1, by omega, by omega, by go_num, (hB.out.alloc hB.out.size _).grown hg2 (by simp; omega) (fun j hj => by cases hj; exact Nat.le_refl _), ?_, by rw [hsz2]; simp; omega, ?_⟩
          · exact HO2.out
          · intro j hj
            by_cases hjk : j = k
            · subst hjk
              rw [hg2.block _ (by simp; omega) (by simp; omega), ← hsz]
              exact top _ _ _ rfl
            · rw [hg2.block _ (by simp; omega) (by simp; omega), Below.heap_alloc _ _ _ (by omega)]
              exact hE.out j (by omega)
      · have : k = len1 := by omega
        subst this
        go_wp2
        go_meet
        case rel => exact ⟨⟨hb, hown, hel, by omega⟩, hsz⟩
  case rest =>
    obtain ⟨T1, S1⟩ := hcut
    have HT1 := hide T1
    have HS1 := hide S1
    clear T1 S1 hd1 hmm
    go_upto_region 10 with fail
    go_cut [58] (fun v w2 => v = .bool (decide (0 < (len2 : Int)) || !a3) ∧ w2 = wc)
    case first =>
      by_cases hp : 0 < len2
      · have hd : decide ((0 : Int) < (len2 : Int)) = true := by simp; omega
        go_wp2
        go_meet
        case rel => exact ⟨by rw [hd]; rfl, rfl⟩
      · have hd : decide ((0 : Int) < (len2 : Int)) = false := by simp; omega
        go_wp2
        go_meet
        case rel => exact ⟨by rw [hd]; rfl, rfl⟩
    case rest =>
      obtain ⟨rfl, rfl⟩ := hcut
      go_upto_if 58 with fail
      go_cut [12] (fun v w3 => St w len1 len1 (Dk (kS fun i => (ss i).data.toList) (dj w.heap.size) len1) w3 ∧ ∃ a12 c12, v = .slice a12 len2 c12 ∧ (0 < len2 → a12 = some ⟨w.heap.size + 1 + len1, 0, none⟩ ∧ w3.there (w.heap.size + 1 + len1) 0 (len2 * 15) ∧ w.heap.size + 1 + len1 < w3.heap.size))
      case first =>
        have mk := fun wx => run_make40 wx len2 h2
        cases hc : (decide ((0 : Int) < (len2 : Int)) || !a3) with
        | true =>
          go_wp2
          go_meet
          case rel => exact ⟨HT1.out.later ((Below.refl _ _).alloc (by have := HS1.out; omega) _), _, _, rfl, fun _ => by rw [← HS1.out]; exact ⟨rfl, there_made _ _, by simp⟩⟩
        | false =>
          have HZ : Hid (len2 = 0) := by simp at hc; exact (show len2 = 0 by omega)
          go_wp2
          go_meet
          case rel => exact ⟨HT1.out, none, 0, by rw [HZ.out], fun h => by have := HZ.out; omega⟩
      case rest =>
        obtain ⟨T2, a12, c12, rfl, hin⟩ := hcut
        have ix12 : Hid (∀ i, i < len2 → ∀ wx, Sem.run Yba.prog (Instr.indexAt 41 (.slice a12 len2 c12) (.int .i64 (i : Int))) wx = .ok (.pointer (some ⟨w.heap.size + 1 + len1, i * 15, none⟩)) wx) := by
          intro i hi wx
          obtain ⟨e, _⟩ := hin (by omega)
          rw [e]
          exact ix41 _ _ _ _ hi wx
        have HT2 := hide T2
        have HIN := hide hin
        clear T2 hin HT1 HS1
        go_upto_block 2 with fail
        go_cut [] (fun w4 => St w len1 len1 (Dk (kS fun i => (ss i).data.toList) (dj w.heap.size) len1) w4 ∧ (0 < len2 → w.heap.size + 1 + len1 < w4.heap.size) ∧ ∀ j, j < len2 → w4.rangeAt (w.heap.size + 1 + len1) (j * 15) (bc (U j) (C j) (Pr j) (Q j) (Id j)).toList)
        case first =>
          go_wp2_with fail
          go_loopg [64] len2 (fun g s64 wr => ∃ k : Nat, k ≤ len2 ∧ len2 - k ≤ g ∧ s64 = .int .i64 k ∧ St w len1 len1 (Dk (kS fun i => (ss i).data.toList) (dj w.heap.size) len1) wr ∧ (0 < len2 → wr.there (w.heap.size + 1 + len1) 0 (len2 * 15) ∧ w.heap.size + 1 + len1 < wr.heap.size) ∧ ∀ j, j < k → wr.rangeAt (w.heap.size + 1 + len1) (j * 15) (bc (U j) (C j) (Pr j) (Q j) (Id j)).toList)
          case atStart => exact ⟨0, Nat.zero_le _, by omega, rfl, HT2.out, fun h => (HIN.out h).2, fun j hj => by omega⟩
          case round =>
            obtain ⟨k, hk, hg, rfl, hst, hth, hra⟩ := hrel
            by_cases hlt : k < len2
            · have i2 := ix2.out k hlt
              have i12 := ix12.out k hlt
              have hrc : wr.rangeAt bb (bo + k * 5) (rc (U k) (C k) (Pr k) (Q k) (Id k)).toList := range_below (c2.out k hlt) hst.below
              obtain ⟨hth1, hth2⟩ := hth (by omega)
              have HS := hide hst
              have HH := hide hth1
              have HR := hide hra
              have HC := hide hrc
              clear hst hth1 hra hrc hth
              go_wp2_with (first | (refine wpList_load_mid rfl 44 (.tmp 71) rfl bb (bo + k * 5) rfl (rc (U k) (C k) (Pr k) (Q k) (Id k)).toList _ HC.out Yba.underlying44 rfl rfl ?_) | (go_at_call 4; refine (make4 _ _ _ _ _ _).mono ?_; rintro e w5 ⟨rfl, rfl⟩) | (refine wpList_store40 rfl (.tmp 74) (.tmp 73) rfl (w.heap.size + 1 + len1) (k * 15) (U k) (C k) (Pr k) (Q k) (Id k) rfl rfl ?st ?_))
              case st => exact there_sub (World.there_alloc (World.there_alloc HH.out _) _) (by omega)
              intro w6 hw6
              go_wp2
              go_roundg (len2 - (k + 1))
              case measure => omega
              case rel =>
                have hsz := HS.out.size
                have hb6 : Below (w.heap.size + 1 + len1) wr w6 := by
                  rw [hw6.out]
                  exact below_setCells (Nat.le_refl _) _ _ _ (((Below.refl _ wr).alloc hsz _).alloc (by simp; omega) _)
                have ht5 := World.there_alloc (World.there_alloc HH.out (.cells (rc (U k) (C k) (Pr k) (Q k) (Id k)) 44)) (.cells (bc (U k) (C k) (Pr k) (Q k) (Id k)) 40)
                refine ⟨k + 1, by omega, by omega, by go_num, HS.out.later hb6, fun _ => ⟨?_, Nat.lt_of_lt_of_le hth2 hb6.size⟩, ?_⟩
                · rw [hw6.out]
                  exact World.there_setCells ht5 _ _ _
                · intro j hj
                  rw [hw6.out]
                  by_cases hjk : j = k
                  · subst hjk
                    exact World.rangeAt_setCells_same _ _ _ _ (there_sub ht5 (by simp; omega))
                  · exact World.rangeAt_setCells_apart (World.rangeAt_alloc (World.rangeAt_alloc (HR.out j (by omega)) _) _) _ _ _ (.inr (.inl (by simp; omega)))
            · have : k = len2 := by omega
              subst this
              go_wp2
              go_meet
              case rel => exact ⟨hst, fun h => (hth h).2, hra⟩
        case rest =>
          obtain ⟨T4, M4, R4⟩ := hcut
          have HT4 := hide T4
          have HM4 := hide M4
          have HR4 := hide R4
          clear T4 M4 R4 HT2 HIN
          go_wp2_with fail
          refine (set5 _ w.heap.size len1 _ s a12 len2 c12 _ h1 hs ?_ (HT4.out.own.alloc _)).mono ?_
          · simp [go_sem]
          rintro e w7 ⟨rfl, hO7, hT7⟩
          have FA := hide (Fa.mk' HT4.out HR4.out rfl hO7 hT7)
          generalize hRg : wc.heap.size = Rg at FA ⊢
          clear hO7 hT7 HT4 HM4 HR4 hRg
          go_upto_block 4 with fail
          go_cut [] (fun w8 => Below w7.heap.size w7 w8)
          case first =>
            go_wp2_with fail
            go_loopg [85] len2 (fun g s85 wr => ∃ k : Nat, k ≤ len2 ∧ len2 - k ≤ g ∧ s85 = .int .i64 k ∧ Below w7.heap.size w7 wr)
            case atStart => exact ⟨0, Nat.zero_le _, by omega, rfl, Below.refl _ _⟩
            case round =>
              obtain ⟨k, hk, hg, rfl, hb⟩ := hrel
              by_cases hlt : k < len2
              · have i2 := ix2.out k hlt
                have i12 := ix12.out k hlt
                have g0 : ∀ wx, Below w7.heap.size w7 wx → wx.cell? ⟨w.heap.size + 1 + len1, k * 15, none⟩ = some (.string { data := #[] }) := fun wx hx => (FA.out.later hx).rows k hlt 0 _ rfl
                have g1 : ∀ wx, Below w7.heap.size w7 wx → wx.cell? ⟨w.heap.size + 1 + len1, k * 15 + 1, none⟩ = some (.string (U k)) := fun wx hx => (FA.out.later hx).rows k hlt 1 _ rfl
                have g2 : ∀ wx, Below w7.heap.size w7 wx → wx.cell? ⟨w.heap.size + 1 + len1, k * 15 + 2, none⟩ = some (.slice none 0 0) := fun wx hx => (FA.out.later hx).rows k hlt 2 _ rfl
                have g3 : ∀ wx, Below w7.heap.size w7 wx → wx.cell? ⟨w.heap.size + 1 + len1, k * 15 + 3, none⟩ = some (.string { data := #[] }) := fun wx hx => (FA.out.later hx).rows k hlt 3 _ rfl
                have g4 : ∀ wx, Below w7.heap.size w7 wx → wx.cell? ⟨w.heap.size + 1 + len1, k * 15 + 4, none⟩ = some (.string { data := #[] }) := fun wx hx => (FA.out.later hx).rows k hlt 4 _ rfl
                have g5 : ∀ wx, Below w7.heap.size w7 wx → wx.cell? ⟨w.heap.size + 1 + len1, k * 15 + 5, none⟩ = some (.int .u32 0) := fun wx hx => (FA.out.later hx).rows k hlt 5 _ rfl
                have g6 : ∀ wx, Below w7.heap.size w7 wx → wx.cell? ⟨w.heap.size + 1 + len1, k * 15 + 6, none⟩ = some (.int .u64 0) := fun wx hx => (FA.out.later hx).rows k hlt 6 _ rfl
                have g7 : ∀ wx, Below w7.heap.size w7 wx → wx.cell? ⟨w.heap.size + 1 + len1, k * 15 + 7, none⟩ = some (.int .i64 0) := fun wx hx => (FA.out.later hx).rows k hlt 7 _ rfl
                have g8 : ∀ wx, Below w7.heap.size w7 wx → wx.cell? ⟨w.heap.size + 1 + len1, k * 15 + 8, none⟩ = some (.pointer none) := fun wx hx => (FA.out.later hx).rows k hlt 8 _ rfl
                have g9 : ∀ wx, Below w7.heap.size w7 wx → wx.cell? ⟨w.heap.size + 1 + len1, k * 15 + 9, none⟩ = some (.string (C k)) := fun wx hx => (FA.out.later hx).rows k hlt 9 _ rfl
                have g10 : ∀ wx, Below w7.heap.size w7 wx → wx.cell? ⟨w.heap.size + 1 + len1, k * 15 + 10, none⟩ = some (.int .u32 (Q k)) := fun wx hx => (FA.out.later hx).rows k hlt 10 _ rfl
                have g11 : ∀ wx, Below w7.heap.size w7 wx → wx.cell? ⟨w.heap.size + 1 + len1, k * 15 + 11, none⟩ = some (.string (Pr k)) := fun wx hx => (FA.out.later hx).rows k hlt 11 _ rfl
                have g12 : ∀ wx, Below w7.heap.size w7 wx → wx.cell? ⟨w.heap.size + 1 + len1, k * 15 + 12, none⟩ = some (.slice none 0 0) := fun wx hx => (FA.out.later hx).rows k hlt 12 _ rfl
                have g13 : ∀ wx, Below w7.heap.size w7 wx → wx.cell? ⟨w.heap.size + 1 + len1, k * 15 + 13, none⟩ = some (.int .u64 (Id k)) := fun wx hx => (FA.out.later hx).rows k hlt 13 _ rfl
                have g14 : ∀ wx, Below w7.heap.size w7 wx → wx.cell? ⟨w.heap.size + 1 + len1, k * 15 + 14, none⟩ = some (.int .i64 0) := fun wx hx => (FA.out.later hx).rows k hlt 14 _ rfl
                have f0 : ∀ wx, Below w7.heap.size w7 wx → wx.cell? ⟨bb, bo + k * 5, none⟩ = some (.string (U k)) := fun wx hx => range_below (c2.out k hlt) (FA.out.later hx).below 0 _ rfl
                have f1 : ∀ wx, Below w7.heap.size w7 wx → wx.cell? ⟨bb, bo + k * 5 + 1, none⟩ = some (.string (C k)) := fun wx hx => range_below (c2.out k hlt) (FA.out.later hx).below 1 _ rfl
                have f2 : ∀ wx, Below w7.heap.size w7 wx → wx.cell? ⟨bb, bo + k * 5 + 2, none⟩ = some (.string (Pr k)) := fun wx hx => range_below (c2.out k hlt) (FA.out.later hx).below 2 _ rfl
                have f3 : ∀ wx, Below w7.heap.size w7 wx → wx.cell? ⟨bb, bo + k * 5 + 3, none⟩ = some (.int .u32 (Q k)) := fun wx hx => range_below (c2.out k hlt) (FA.out.later hx).below 3 _ rfl
                have f4 : ∀ wx, Below w7.heap.size w7 wx → wx.cell? ⟨bb, bo + k * 5 + 4, none⟩ = some (.int .u64 (Id k)) := fun wx hx => range_below (c2.out k hlt) (FA.out.later hx).below 4 _ rfl
                have K6 : Hid (∀ wx, Below w7.heap.size w7 wx → Calls Yba.prog 6 #[.agg (bc (U k) (C k) (Pr k) (Q k) (Id k)), .agg (rc (U k) (C k) (Pr k) (Q k) (Id k))] wx fun e w' => e = .returned (.bool true) ∧ Below w7.heap.size w7 w') := by
                  intro wx hx
                  refine (same6 _ _ _ _ _ wx).mono ?_
                  rintro e w' ⟨rfl, hb'⟩
                  exact ⟨rfl, hx.trans (hb'.mono hx.size)⟩
                go_wp2_with fail
                go_region_held (fun w' => Below w7.heap.size w7 w') (first | assumption | (apply Below.drew; assumption)) (first | (go_at_call 6; refine (K6.out _ (by first | assumption | (apply Below.drew; assumption))).mono ?_; rintro e w9 ⟨rfl, hb9⟩))
                clear g0 g1 g2 g3 g4 g5 g6 g7 g8 g9 g10 g11 g12 g13 g14 f0 f1 f2 f3 f4
                go_wp2
                go_roundg (len2 - (k + 1))
                case measure => omega
                case rel => exact ⟨k + 1, by omega, by omega, by go_num, hb9⟩
              · have : k = len2 := by omega
                subst this
                go_wp2
                go_meet
                case rel => exact hb
          case rest =>
            have FA8 := hide (FA.out.later hcut)
            clear hcut FA
            go_upto_block 6 with fail
            go_cut [16] (fun v w9 => v = .int .i64 (cntA (fun i => (ss i).data.toList) s.data.toList len1 : Nat) ∧ w9 = wc)
            case first =>
              go_wp2_with fail
              go_loopg [101, 16] len1 (fun g s101 s16 wr => ∃ k : Nat, k ≤ len1 ∧ len1 - k ≤ g ∧ s101 = .int .i64 k ∧ s16 = .int .i64 (cntA (fun i => (ss i).data.toList) s.data.toList k : Nat) ∧ wr = wc)
              case atStart => exact ⟨0, Nat.zero_le _, by omega, rfl, rfl, rfl⟩
              case round =>
                obtain ⟨k, hk, hg, rfl, rfl, rfl⟩ := hrel
                by_cases hlt : k < len1
                · have i1 := ix1.out k hlt
                  obtain ⟨ck0, hks⟩ := c1.out k hlt
                  have ck : wr.cell? ⟨kb, ko + k, none⟩ = some (.string (ss k)) := by rw [FA8.out.below.cell (cell_lt ck0)]; exact ck0
                  have hcl := cntA_le (fun i => (ss i).data.toList) s.data.toList k
                  clear ck0
                  cases hA : (ss k).toList == s.toList with
                  | true =>
                    have HE := hide (cntA_skip (fun i => (ss i).data.toList) s.data.toList (k := k) (str_eq hA))
                    go_wp2
                    go_roundg (len1 - (k + 1))
                    case measure => omega
                    case rel => exact ⟨k + 1, by omega, by omega, by go_num, by rw [HE.out], rfl⟩
                  | false =>
                    have HNE := hide (str_ne hA)
                    go_upto_block 8 with fail
                    go_cut [19, 20] (fun v19 v20 w9 => (∃ last : Nat, v19 = .int .i64 last ∧ last < len1 ∧ (ss last).data.toList = (ss k).data.toList ∧ ∀ i, last < i → i < len1 → (ss i).data.toList ≠ (ss k).data.toList) ∧ v20 = .bool (!anyB (fun i => (ss i).data.toList) k (ss k).data.toList) ∧ w9 = wr)
                    case first =>
                      go_wp2_with fail
                      go_loopg [112, 19, 20] len1 (fun g s112 s19 s20 wx => ∃ j last : Nat, j ≤ len1 ∧ len1 - j ≤ g ∧ s112 = .int .i64 j ∧ s19 = .int .i64 last ∧ s20 = .bool (!anyB (fun i => (ss i).data.toList) (min j k) (ss k).data.toList) ∧ Hid (Last (fun i => (ss i).data.toList) k j last) ∧ wx = wr)
                      case atStart => exact ⟨0, k, Nat.zero_le _, by omega, rfl, rfl, by simp [anyB], .inl ⟨rfl, fun i hi => by omega⟩, rfl⟩
                      case round =>
                        obtain ⟨j, last, hj, hgj, rfl, rfl, rfl, HL, rfl⟩ := hrel
                        by_cases hjlt : j < len1
                        · have i1j := ix1.out j hjlt
                          obtain ⟨cj0, hjs⟩ := c1.out j hjlt
                          have cj : wr.cell? ⟨kb, ko + j, none⟩ = some (.string (ss j)) := by rw [FA8.out.below.cell (cell_lt cj0)]; exact cj0
                          clear cj0
                          cases hjk : (ss j).toList == (ss k).toList with
                          | true =>
                            have HEQ := hide (str_eq hjk)
                            by_cases hlk : j < k
                            · go_wp2
                              go_roundg (len1 - (j + 1))
                              case measure => omega
                              case rel => exact ⟨j + 1, j, by omega, by omega, by go_num, rfl, by rw [any_hit (fun i => (ss i).data.toList) HEQ.out hlk]; rfl, Last.hit (fun i => (ss i).data.toList) HEQ.out, rfl⟩
                            · go_wp2
                              go_roundg (len1 - (j + 1))
                              case measure => omega
                              case rel => exact ⟨j + 1, j, by omega, by omega, by go_num, rfl, by rw [any_past (fun i => (ss i).data.toList) (by omega)], Last.hit (fun i => (ss i).data.toList) HEQ.out, rfl⟩
                          | false =>
                            have HEQ := hide (str_ne hjk)
                            go_wp2
                            go_roundg (len1 - (j + 1))
                            case measure => omega
                            case rel => exact ⟨j + 1, last, by omega, by omega, by go_num, rfl, by rw [any_miss (fun i => (ss i).data.toList) HEQ.out], Last.miss (fun i => (ss i).data.toList) HL.out HEQ.out, rfl⟩
                        · have : j = len1 := by omega
                          subst this
                          go_wp2
                          go_meet
                          case rel => exact ⟨⟨last, rfl, Last.done (fun i => (ss i).data.toList) HL.out hlt⟩, by rw [show min j k = k by omega], rfl⟩
                    case rest =>
                      obtain ⟨⟨last, rfl, hlast, el, hla⟩, rfl, rfl⟩ := hcut
                      have HLA := hide (Df_key (fun i => (ss i).data.toList) w.heap.size s.data.toList (.slice a12 len2 c12) len2 len1 (k := k) HNE.out hlast el hla (.held (.slice none 0 0)))
                      have HHA := hide (Df_has (fun i => (ss i).data.toList) w.heap.size s.data.toList (.slice a12 len2 c12) len2 len1 (k := k) HNE.out hlast el)
                      have hid := FA8.out.elem last hlast
                      have cid : wc.cell? ⟨w.heap.size + 1 + last, 13, none⟩ = some (.int .u64 last) := by simp [World.cell?, hid]
                      have creg := FA8.out.reg
                      clear el hla hid
                      cases hf : anyB (fun i => (ss i).data.toList) k (ss k).data.toList with
                      | true =>
                        have HC := hide (cntA_again (fun i => (ss i).data.toList) s.data.toList hf)
                        go_wp2_with (first | (at_lookup; refine wpList_look rfl _ _ rfl w.heap.size (len1 + 1) _ rfl (ss k) rfl (vj w.heap.size last) true FA8.out.own hks HLA.out HHA.out ?_; unfold vj))
                        go_roundg (len1 - (k + 1))
                        case measure => omega
                        case rel => exact ⟨k + 1, by omega, by omega, by go_num, by rw [HC.out], rfl⟩
                      | false =>
                        have HC := hide (cntA_new (fun i => (ss i).data.toList) s.data.toList HNE.out hf)
                        go_wp2_with (first | (at_lookup; refine wpList_look rfl _ _ rfl w.heap.size (len1 + 1) _ rfl (ss k) rfl (vj w.heap.size last) true FA8.out.own hks HLA.out HHA.out ?_; unfold vj))
                        go_roundg (len1 - (k + 1))
                        case measure => omega
                        case rel => exact ⟨k + 1, by omega, by omega, by go_num, by rw [HC.out]; go_num, rfl⟩
                · have : k = len1 := by omega
                  subst this
                  go_wp2
                  go_meet
                  case rel => exact ⟨rfl, rfl⟩
            case rest =>
              obtain ⟨rfl, hw9⟩ := hcut
              rw [← hw9] at FA8
              clear hw9
              have HSZ := hide (Df_size (fun i => (ss i).data.toList) w.heap.size s.data.toList (.slice a12 len2 c12) len2 len1)
              have hcl := cntA_le (fun i => (ss i).data.toList) s.data.toList len1
              rcases Nat.eq_zero_or_pos len2 with hz | hpos
              · have creg := FA8.out.reg
                have h0 : ((len2 : Int) == 0) = true := by rw [hz]; rfl
                have HN := hide (Df_none (fun i => (ss i).data.toList) w.heap.size s.data.toList (.slice a12 len2 c12) len2 len1 hz)
                have HA := hide (Df_none_at (fun i => (ss i).data.toList) w.heap.size s.data.toList (.slice a12 len2 c12) len2 len1 hz (.held (.slice none 0 0)))
                have HZ := hide hz
                clear hz
                go_wp2_with (first | (at_lookup; refine wpList_look rfl _ _ rfl w.heap.size (len1 + 1) _ rfl s rfl (.slice none 0 0) false FA8.out.own hs HA.out HN.out ?_) | (at_len; refine wpList_len_own _ rfl _ 24 rfl 9 41 Yba.underlying24 RV w.heap.size (len1 + 1) _ rfl FA8.out.own ?_))
                go_ret
                refine ⟨?_, FA8.out.below⟩
                show Ending.returned (.bool _) = _
                rw [HSZ.out, if_pos HZ.out]
                simp
              · have creg := FA8.out.reg
                have h0 : ((len2 : Int) == 0) = false := by simp; omega
                have HN := hide (Df_some (fun i => (ss i).data.toList) w.heap.size s.data.toList (.slice a12 len2 c12) len2 len1 hpos)
                have HA := hide (Df_some_at (fun i => (ss i).data.toList) w.heap.size s.data.toList (.slice a12 len2 c12) len2 len1 hpos (.held (.slice none 0 0)))
                have i0 : ∀ wx, Sem.run Yba.prog (Instr.indexAt 41 (.slice a12 len2 c12) (.int .i64 0)) wx = .ok (.pointer (some ⟨w.heap.size + 1 + len1, 0, none⟩)) wx := fun wx => by simpa using ix12.out 0 hpos wx
                have p68 := pn68
                go_wp2_with (first | (at_lookup; refine wpList_look rfl _ _ rfl w.heap.size (len1 + 1) _ rfl s rfl (.slice a12 len2 c12) true FA8.out.own hs HA.out HN.out ?_))
                go_quiet (fail)
                go_upto_block 10 with fail
                go_cut [] (fun w9 => Below wc.heap.size wc w9)
                case first =>
                  go_wp2_with fail
                  go_loopg [197] len2 (fun g s197 wr => ∃ k : Nat, k ≤ len2 ∧ len2 - k ≤ g ∧ s197 = .int .i64 k ∧ Below wc.heap.size wc wr)
                  case atStart => exact ⟨0, Nat.zero_le _, by omega, rfl, ⟨rfl, rfl, rfl, Nat.le_refl _, fun _ _ => rfl⟩⟩
                  case round =>
                    obtain ⟨k, hk, hg, rfl, hb⟩ := hrel
                    by_cases hlt : k < len2
                    · have i2 := ix2.out k hlt
                      have i12 := ix12.out k hlt
                      have g0 : ∀ wx, Below wc.heap.size wc wx → wx.cell? ⟨w.heap.size + 1 + len1, k * 15, none⟩ = some (.string { data := #[] }) := fun wx hx => (FA8.out.later hx).rows k hlt 0 _ rfl
                      have g1 : ∀ wx, Below wc.heap.size wc wx → wx.cell? ⟨w.heap.size + 1 + len1, k * 15 + 1, none⟩ = some (.string (U k)) := fun wx hx => (FA8.out.later hx).rows k hlt 1 _ rfl
                      have g2 : ∀ wx, Below wc.heap.size wc wx → wx.cell? ⟨w.heap.size + 1 + len1, k * 15 + 2, none⟩ = some (.slice none 0 0) := fun wx hx => (FA8.out.later hx).rows k hlt 2 _ rfl
                      have g3 : ∀ wx, Below wc.heap.size wc wx → wx.cell? ⟨w.heap.size + 1 + len1, k * 15 + 3, none⟩ = some (.string { data := #[] }) := fun wx hx => (FA8.out.later hx).rows k hlt 3 _ rfl
                      have g4 : ∀ wx, Below wc.heap.size wc wx → wx.cell? ⟨w.heap.size + 1 + len1, k * 15 + 4, none⟩ = some (.string { data := #[] }) := fun wx hx => (FA8.out.later hx).rows k hlt 4 _ rfl
                      have g5 : ∀ wx, Below wc.heap.size wc wx → wx.cell? ⟨w.heap.size + 1 + len1, k * 15 + 5, none⟩ = some (.int .u32 0) := fun wx hx => (FA8.out.later hx).rows k hlt 5 _ rfl
                      have g6 : ∀ wx, Below wc.heap.size wc wx → wx.cell? ⟨w.heap.size + 1 + len1, k * 15 + 6, none⟩ = some (.int .u64 0) := fun wx hx => (FA8.out.later hx).rows k hlt 6 _ rfl
                      have g7 : ∀ wx, Below wc.heap.size wc wx → wx.cell? ⟨w.heap.size + 1 + len1, k * 15 + 7, none⟩ = some (.int .i64 0) := fun wx hx => (FA8.out.later hx).rows k hlt 7 _ rfl
                      have g8 : ∀ wx, Below wc.heap.size wc wx → wx.cell? ⟨w.heap.size + 1 + len1, k * 15 + 8, none⟩ = some (.pointer none) := fun wx hx => (FA8.out.later hx).rows k hlt 8 _ rfl
                      have g9 : ∀ wx, Below wc.heap.size wc wx → wx.cell? ⟨w.heap.size + 1 + len1, k * 15 + 9, none⟩ = some (.string (C k)) := fun wx hx => (FA8.out.later hx).rows k hlt 9 _ rfl
                      have g10 : ∀ wx, Below wc.heap.size wc wx → wx.cell? ⟨w.heap.size + 1 + len1, k * 15 + 10, none⟩ = some (.int .u32 (Q k)) := fun wx hx => (FA8.out.later hx).rows k hlt 10 _ rfl
                      have g11 : ∀ wx, Below wc.heap.size wc wx → wx.cell? ⟨w.heap.size + 1 + len1, k * 15 + 11, none⟩ = some (.string (Pr k)) := fun wx hx => (FA8.out.later hx).rows k hlt 11 _ rfl
                      have g12 : ∀ wx, Below wc.heap.size wc wx → wx.cell? ⟨w.heap.size + 1 + len1, k * 15 + 12, none⟩ = some (.slice none 0 0) := fun wx hx => (FA8.out.later hx).rows k hlt 12 _ rfl
                      have g13 : ∀ wx, Below wc.heap.size wc wx → wx.cell? ⟨w.heap.size + 1 + len1, k * 15 + 13, none⟩ = some (.int .u64 (Id k)) := fun wx hx => (FA8.out.later hx).rows k hlt 13 _ rfl
                      have g14 : ∀ wx, Below wc.heap.size wc wx → wx.cell? ⟨w.heap.size + 1 + len1, k * 15 + 14, none⟩ = some (.int .i64 0) := fun wx hx => (FA8.out.later hx).rows k hlt 14 _ rfl
                      have f0 : ∀ wx, Below wc.heap.size wc wx → wx.cell? ⟨bb, bo + k * 5, none⟩ = some (.string (U k)) := fun wx hx => range_below (c2.out k hlt) (FA8.out.later hx).below 0 _ rfl
                      have f1 : ∀ wx, Below wc.heap.size wc wx → wx.cell? ⟨bb, bo + k * 5 + 1, none⟩ = some (.string (C k)) := fun wx hx => range_below (c2.out k hlt) (FA8.out.later hx).below 1 _ rfl
                      have f2 : ∀ wx, Below wc.heap.size wc wx → wx.cell? ⟨bb, bo + k * 5 + 2, none⟩ = some (.string (Pr k)) := fun wx hx => range_below (c2.out k hlt) (FA8.out.later hx).below 2 _ rfl
                      have f3 : ∀ wx, Below wc.heap.size wc wx → wx.cell? ⟨bb, bo + k * 5 + 3, none⟩ = some (.int .u32 (Q k)) := fun wx hx => range_below (c2.out k hlt) (FA8.out.later hx).below 3 _ rfl
                      have f4 : ∀ wx, Below wc.heap.size wc wx → wx.cell? ⟨bb, bo + k * 5 + 4, none⟩ = some (.int .u64 (Id k)) := fun wx hx => range_below (c2.out k hlt) (FA8.out.later hx).below 4 _ rfl
                      have K6 : Hid (∀ wx, Below wc.heap.size wc wx → Calls Yba.prog 6 #[.agg (bc (U k) (C k) (Pr k) (Q k) (Id k)), .agg (rc (U k) (C k) (Pr k) (Q k) (Id k))] wx fun e w' => e = .returned (.bool true) ∧ Below wc.heap.size wc w') := by
                        intro wx hx
                        refine (same6 _ _ _ _ _ wx).mono ?_
                        rintro e w' ⟨rfl, hb'⟩
                        exact ⟨rfl, hx.trans (hb'.mono hx.size)⟩
                      clear creg i0 p68
                      go_wp2_with fail
                      go_region_held (fun w' => Below wc.heap.size wc w') (first | assumption | (apply Below.drew; assumption)) (first | (go_at_call 6; refine (K6.out _ (by first | assumption | (apply Below.drew; assumption))).mono ?_; rintro e w9 ⟨rfl, hb9⟩))
                      clear g0 g1 g2 g3 g4 g5 g6 g7 g8 g9 g10 g11 g12 g13 g14 f0 f1 f2 f3 f4
                      go_wp2
                      go_roundg (len2 - (k + 1))
                      case measure => omega
                      case rel => exact ⟨k + 1, by omega, by omega, by go_num, hb9⟩
                    · have : k = len2 := by omega
                      subst this
                      go_wp2
                      go_meet
                      case rel => exact hb
                case rest =>
                  have FA9 := hide (FA8.out.later hcut)
                  have creg9 := FA9.out.reg
                  clear creg i0 p68
                  go_wp2_with (first | (at_len; refine wpList_len_own _ rfl _ 24 rfl 9 41 Yba.underlying24 RV w.heap.size (len1 + 1) _ rfl FA9.out.own ?_))
                  go_ret
                  refine ⟨?_, FA9.out.below⟩
                  show Ending.returned (.bool _) = _
                  rw [HSZ.out, if_neg (by omega)]
                  simp
end Go.Proofs.Ybulkeeoi

import Derived.Test.YbulkeeoiDoorTime2
import Derived.Test.YbulkeeoiDoorShelf
import Derived.Lib.ItoaMem
import Derived.Deep.LoopGhost
namespace Go.Proofs.YbulkeeoiDoor
open Go.RowKit Go.Sort
set_option linter.unusedVariables false

theorem tab_below {P : Program} {w w' : World} {name : String} {k : IntKind} {zs : List Int} (h : Lib.TabIs P w name k zs) (hb : Below w.heap.size w w') : Lib.TabIs P w' name k zs := by
  unfold Lib.TabIs World.var? at *
  cases hg : P.globalNamed name with
  | none => simp [hg] at h
  | some g =>
    simp only [hg, Option.bind_some] at h ⊢
    have hlt : g < w.heap.size := by
      rcases Nat.lt_or_ge g w.heap.size with h' | h'
      · exact h'
      · rw [Array.getElem?_eq_none h'] at h; simp at h
    rw [hb.block g hlt]
    exact h

theorem holds_zero0 (w : World) (T : TypeId) (nd : Nat) (hs : nd ≤ 24) : Holds (fun (b : UInt8) => Value.int .u8 (b.toNat : Int)) (w.alloc (.cells Lib.zeros24 T)) w.heap.size 0 (Array.replicate nd (0 : UInt8)) := fun j hj => by
  have hj' : j < nd := by simpa using hj
  refine ⟨?_, World.frozen?_alloc_new _ _ _ _⟩
  rw [World.cell?_alloc_new, Lib.zeros24_at _ (by omega), getElem!_pos _ j hj]
  simp

theorem below_row (w : World) (o : Obj) (dk : Array UInt8) (k : Nat) : Below w.heap.size w ((putRow (fun (b : UInt8) => Value.int .u8 (b.toNat : Int)) (w.alloc o) w.heap.size 0 dk).drewN k) := by
  rw [alloc_eq_grow]
  obtain ⟨os', _, e⟩ := putRow_grow_new (fun (b : UInt8) => Value.int .u8 (b.toNat : Int)) w #[o] w.heap.size 0 dk (Nat.le_refl _)
  rw [e]
  exact ⟨rfl, rfl, rfl, by show w.heap.size ≤ (grow w os').heap.size; simp, fun j hj => heap_grow_old w os' hj⟩

/-- The text of a number. -/
def num (u : Nat) : ByteArray := ⟨(Lib.decDigits u).toArray⟩

set_option maxHeartbeats 2000000 in
set_option maxRecDepth 100000 in
theorem fmt21 (u : Nat) (hu : u < 18446744073709551616) (w : World) (htab : Hid (Lib.TabIs Ybad.prog w Ybad.powName .u64 Lib.pow10Tab)) :
    Calls Ybad.prog 21 #[.int .u64 (u : Int), .int .i64 10] w fun e w' => e = .returned (.string (num u)) ∧ Below w.heap.size w w' := by
  by_cases hs : u < 100
  · go_enter Ybad.func21, Ybad.ntmps21
    go_wp2_with (go_at_call 24; refine (Ybad.internal_strconv_small u hs _).mono ?_; rintro e w' ⟨rfl, rfl⟩)
    go_ret
    exact ⟨rfl, Below.refl _ _⟩
  · have hu1 : 1 ≤ u := by omega
    have hnd20 : Lib.nDigits u ≤ 20 := by have := Lib.numDigits_eq u hu1 hu; split at this <;> omega
    have hal : Ybad.prog.arrayLen 119 = 24 := by simp [Program.arrayLen, Ybad.underlying119]
    have hsl1 : ∀ W, (Instr.sliceAt 119 (.pointer (some ⟨w.heap.size, 0, none⟩)) none (some (.int .i64 (Lib.nDigits u : Int))) none).run Ybad.prog W = .ok (.slice (some ⟨w.heap.size, 0, none⟩) (Lib.nDigits u) 24) W := fun W => by
      rw [run_sliceAt_array_h W 119 ⟨w.heap.size, 0, none⟩ (by simp [Program.arrayLen, Program.elem, Ybad.underlying119]) .i64 (Lib.nDigits u : Int) (by omega) (by rw [hal]; omega)]
      go_simp
    have hH0 := holds_zero0 w 119 (Lib.nDigits u) (by omega)
    have hfmt := Ybad.internal_strconv_formatBase10 w.heap.size 0 24 u (Array.replicate (Lib.nDigits u) 0) (w.alloc (.cells Lib.zeros24 119)) hH0 (by rw [Array.size_replicate]; exact Lib.lt_pow_nDigits u) hu (by rw [Array.size_replicate]; omega)
    rw [Array.size_replicate] at hfmt
    have HH0 := hide hH0
    have HF := hide hfmt
    clear hH0 hal hfmt
    have k1 : decide ((u : Int) < 100) = false := by simp; omega
    go_enter Ybad.func21, Ybad.ntmps21
    go_wp2_with (first
      | (go_at_call 25; refine (Ybad.internal_strconv_numDigits u hu1 hu _ (Lib.tabIs_alloc htab.out _)).mono ?_; rintro e w' ⟨rfl, rfl⟩))
    go_at_call 26
    refine HF.out.mono ?_
    rintro e w' ⟨rfl, k, v', dk, rfl, hF⟩
    have hcv : (convert 24 9 (.slice (some ⟨w.heap.size, 0, none⟩) (Lib.nDigits u) 24)).run Ybad.prog ((putRow (fun (b : UInt8) => Value.int .u8 (b.toNat : Int)) (w.alloc (.cells Lib.zeros24 119)) w.heap.size 0 dk).drewN k) = .ok (.string (num u)) ((putRow (fun (b : UInt8) => Value.int .u8 (b.toNat : Int)) (w.alloc (.cells Lib.zeros24 119)) w.heap.size 0 dk).drewN k) := by
      have h := run_convert_bytes_back (P := Ybad.prog) ((putRow (fun (b : UInt8) => Value.int .u8 (b.toNat : Int)) (w.alloc (.cells Lib.zeros24 119)) w.heap.size 0 dk).drewN k) 24 9 5 ⟨w.heap.size, 0, none⟩ 24 (Lib.decDigits u) Ybad.underlying24 Ybad.underlying5 Ybad.underlying9 (fun j hj => by
        rw [Lib.row_is_numeral hF j hj, Lib.add_plain, World.cell?_drewN]
        exact cell?_putRow (fun (b : UInt8) => Value.int .u8 (b.toNat : Int)) _ w.heap.size 0 _ dk HH0.out (by rw [hF.size, Array.size_replicate]) j (by rw [hF.size]; rw [Lib.decDigits_length] at hj; exact hj))
      rw [Lib.decDigits_length] at h
      exact h
    go_wp2
    go_ret
    exact ⟨rfl, below_row w _ dk k⟩

set_option maxHeartbeats 1000000 in
theorem fmt19 (u : Nat) (hu : u < 18446744073709551616) (w : World) (htab : Hid (Lib.TabIs Ybad.prog w Ybad.powName .u64 Lib.pow10Tab)) :
    Calls Ybad.prog 19 #[.int .u64 (u : Int), .int .i64 10] w fun e w' => e = .returned (.string (num u)) ∧ Below w.heap.size w w' := by
  have K := hide (fmt21 u hu w htab)
  go_enter Ybad.func19, Ybad.ntmps19
  go_wp2_with (go_at_call 21; refine K.out.mono ?_; rintro e w' ⟨rfl, hb⟩)
  go_ret
  exact ⟨rfl, hb⟩

/-- The texts of zzs6547caor. -/
def aorS (k : Nat) : ByteArray := match k % 6 with
  | 0 => { data := #[115, 105, 112, 58, 97, 108, 105, 99, 101, 64, 104, 111, 109, 101, 46, 110, 101, 116] }
  | 1 => { data := #[115, 105, 112, 58, 98, 111, 98, 64, 104, 111, 109, 101, 46, 110, 101, 116] }
  | 2 => { data := #[116, 101, 108, 58, 43, 49, 53, 53, 53, 49, 50, 51, 52] }
  | 3 => { data := #[115, 105, 112, 58, 99, 97, 114, 111, 108, 64, 104, 111, 109, 101, 46, 110, 101, 116] }
  | 4 => { data := #[115, 105, 112, 115, 58, 100, 97, 118, 101, 64, 104, 111, 109, 101, 46, 110, 101, 116] }
  | _ => { data := #[115, 105, 112, 58, 101, 118, 101, 64, 104, 111, 109, 101, 46, 110, 101, 116] }

theorem aorS_fin : ∀ i j : Fin 6, aorS i.val = aorS j.val → i.val = j.val := by decide +kernel
theorem aorS_mod (k : Nat) : aorS (k % 6) = aorS k := by unfold aorS; rw [Nat.mod_mod]
theorem aorS_inj {i j : Nat} (h : aorS i = aorS j) : i % 6 = j % 6 :=
  aorS_fin ⟨i % 6, Nat.mod_lt _ (by decide)⟩ ⟨j % 6, Nat.mod_lt _ (by decide)⟩ (by show aorS (i % 6) = aorS (j % 6); rw [aorS_mod, aorS_mod, h])

set_option maxHeartbeats 1000000 in
theorem aor6 (k : Nat) (hk : k < 256) (w : World) : Calls Ybad.prog 6 #[.int .u8 (k : Int)] w fun e w' => e = .returned (.string (aorS k)) ∧ w' = w := by
  have hm : (k : Int).tmod 6 = ((k % 6 : Nat) : Int) := by rw [Int.tmod_eq_emod_of_nonneg (by omega)]; omega
  have hc : k % 6 = 0 ∨ k % 6 = 1 ∨ k % 6 = 2 ∨ k % 6 = 3 ∨ k % 6 = 4 ∨ k % 6 = 5 := by omega
  have HA : Hid (aorS k = aorS (k % 6)) := (aorS_mod k).symm
  rcases hc with h | h | h | h | h | h
  all_goals
    rw [h] at hm HA
    have HK := hide h
    clear h
    go_enter Ybad.func6, Ybad.ntmps6
    go_wp2
    go_ret
    refine ⟨?_, rfl⟩
    rw [HA.out]
    rfl
end Go.Proofs.YbulkeeoiDoor

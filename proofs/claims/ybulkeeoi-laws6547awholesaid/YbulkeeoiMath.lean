import Derived.Maps.Views
namespace Go.Proofs.Ybulkeeoi
open Go Go.Maps

section
variable {H : Type} (K : Nat → Lit) (val : Nat → DataW H)

/-- The map after the first k keys have been put. -/
def Dk : Nat → DataW H
  | 0 => .map []
  | k + 1 => (Dk k).put (K k) (val k)

theorem isMap_Dk : ∀ k, IsMap (Dk K val k)
  | 0 => isMap_empty
  | k + 1 => (isMap_Dk k).put _ _
theorem tidy_Dk (hk : ∀ i, WideAt.IsKeyLit (K i)) : ∀ k, Tidy (Dk K val k)
  | 0 => tidy_empty
  | k + 1 => (tidy_Dk hk k).put (hk k) _

theorem has_Dk (hk : ∀ i, WideAt.IsKeyLit (K i)) (x : Lit) : ∀ k, Maps.has (Dk K val k) x = true ↔ ∃ j, j < k ∧ K j = x
  | 0 => by simp [Dk, Maps.has]
  | k + 1 => by
    by_cases h : x = K k
    · subst h
      rw [Dk, has_put_same (isMap_Dk K val k) (hk k)]
      exact ⟨fun _ => ⟨k, by omega, rfl⟩, fun _ => rfl⟩
    · rw [Dk, has_put_other h, has_Dk hk x k]
      constructor
      · rintro ⟨j, hj, e⟩; exact ⟨j, by omega, e⟩
      · rintro ⟨j, hj, e⟩
        by_cases hjk : j = k
        · subst hjk; exact absurd e.symm h
        · exact ⟨j, by omega, e⟩

theorem at_Dk (hk : ∀ i, WideAt.IsKeyLit (K i)) (z : DataW H) (x : Lit) (l : Nat) : ∀ k, l < k → K l = x → (∀ j, l < j → j < k → K j ≠ x) → (Dk K val k).atKey x z = val l
  | 0, h, _, _ => by omega
  | k + 1, hl, e, hlast => by
    by_cases h : l = k
    · subst h
      rw [Dk, ← e, atKey_put_same (isMap_Dk K val l) (hk l)]
    · rw [Dk, atKey_put_other (fun e' => hlast k (by omega) (by omega) e'.symm)]
      exact at_Dk hk z x l k (by omega) e (fun j h1 h2 => hlast j h1 (by omega))

end

section
variable {H : Type} (S : Nat → List UInt8) (val : Nat → DataW H)
/-- The keys as they are read. -/
abbrev kS (i : Nat) : Lit := .string (S i)
/-- Is x among the first k keys? -/
def anyB (k : Nat) (x : List UInt8) : Bool := (List.range k).any (fun j => decide (S j = x))
theorem anyB_iff (k : Nat) (x : List UInt8) : anyB S k x = true ↔ ∃ j, j < k ∧ S j = x := by simp [anyB]

/-- How many different keys there are among the first k. -/
def cnt : Nat → Nat
  | 0 => 0
  | k + 1 => cnt k + if anyB S k (S k) = true then 0 else 1
/-- How many different keys other than A there are among the first k. -/
def cntA (A : List UInt8) : Nat → Nat
  | 0 => 0
  | k + 1 => cntA A k + if S k = A ∨ anyB S k (S k) = true then 0 else 1

theorem cntA_le (A : List UInt8) : ∀ k, cntA S A k ≤ k
  | 0 => Nat.le_refl _
  | k + 1 => by have := cntA_le A k; unfold cntA; split <;> omega

theorem key_kS (i : Nat) : WideAt.IsKeyLit (kS S i) := by simp [WideAt.IsKeyLit]
theorem has_kS (A : List UInt8) (k : Nat) : Maps.has (Dk (kS S) val k) (.string A) = true ↔ anyB S k A = true := by
  rw [has_Dk (kS S) val (key_kS S), anyB_iff]
  simp

theorem size_Dk : ∀ k, Maps.size (Dk (kS S) val k) = cnt S k
  | 0 => rfl
  | k + 1 => by
    rw [Dk, size_put (tidy_Dk (kS S) val (key_kS S) k), size_Dk k, cnt]
    have e := has_kS S val (S k) k
    by_cases h : anyB S k (S k) = true
    · rw [if_pos (e.2 h), if_pos h]; rfl
    · rw [if_neg (fun x => h (e.1 x)), if_neg h]

theorem cnt_split (A : List UInt8) : ∀ k, cnt S k = cntA S A k + if anyB S k A = true then 1 else 0
  | 0 => by simp [cnt, cntA, anyB]
  | k + 1 => by
    rw [cnt, cntA, cnt_split A k]
    by_cases hA : S k = A
    · rw [if_pos (Or.inl hA), if_pos ((anyB_iff S (k + 1) A).2 ⟨k, by omega, hA⟩), hA]
      by_cases h : anyB S k A = true
      · rw [if_pos h, if_pos h]
      · rw [if_neg h, if_neg h]
    · have e : anyB S (k + 1) A = true ↔ anyB S k A = true := by
        rw [anyB_iff, anyB_iff]
        constructor
        · rintro ⟨j, hj, e⟩
          by_cases hjk : j = k
          · subst hjk; exact absurd e hA
          · exact ⟨j, by omega, e⟩
        · rintro ⟨j, hj, e⟩; exact ⟨j, by omega, e⟩
      by_cases h : anyB S k (S k) = true
      · rw [if_pos h, if_pos (Or.inr h)]; simp only [e]; omega
      · rw [if_neg h, if_neg (show ¬ (S k = A ∨ anyB S k (S k) = true) from fun x => x.elim hA h)]; simp only [e]; omega

theorem size_del_Dk (A : List UInt8) (k : Nat) : Maps.size ((Dk (kS S) val k).del (.string A)) = cntA S A k := by
  have h1 := size_del (k := Lit.string A) (tidy_Dk (kS S) val (key_kS S) k)
  rw [size_Dk S val k, cnt_split S A k] at h1
  have e := has_kS S val A k
  by_cases h : anyB S k A = true
  · rw [if_pos (e.2 h), if_pos h] at h1; omega
  · rw [if_neg (fun x => h (e.1 x)), if_neg h] at h1; omega

theorem size_put_Dk (A : List UInt8) (d : DataW H) (k : Nat) : Maps.size ((Dk (kS S) val k).put (.string A) d) = cntA S A k + 1 := by
  rw [size_put (tidy_Dk (kS S) val (key_kS S) k), size_Dk S val k, cnt_split S A k]
  have e := has_kS S val A k
  by_cases h : anyB S k A = true
  · rw [if_pos (e.2 h), if_pos h]
  · rw [if_neg (fun x => h (e.1 x)), if_neg h]
end
end Go.Proofs.Ybulkeeoi

import Derived.Test.YbulkeepkBase
import Derived.Deep.DeepCutAuto
import Derived.Deep.CutBlock
namespace Go.Proofs.Ybulkeepk.Hp
open Go.RowKit
set_option linter.unusedVariables false

theorem there_of {w : World} {b : Nat} {C : Array Value} {t : TypeId} (hb : w.heap[b]? = some (.cells C t (0, 0))) : w.there b 0 C.size := by
  intro j hj
  rw [Nat.zero_add]
  exact ⟨by simp [World.cell?, hb, hj], by simp [World.frozen?, hb]⟩
theorem there_made (w : World) (z : Array Value) (n : Nat) (t : TypeId) : (w.alloc (.cells (madeCells z n) t)).there w.heap.size 0 n := by
  have h := there_of (top w (.cells (madeCells z n) t) _ rfl)
  rwa [size_madeCells] at h
theorem there_cell {w : World} {b n : Nat} (h : w.there b 0 n) (i : Nat) (hi : i < n) : ∃ v, w.cell? ⟨b, i, none⟩ = some v := by
  have := (h i hi).1
  rw [Nat.zero_add] at this
  exact Option.isSome_iff_exists.1 this
theorem there_frozen {w : World} {b n : Nat} (h : w.there b 0 n) (i : Nat) (hi : i < n) : w.frozen? ⟨b, i, none⟩ = false := by
  have := (h i hi).2
  rwa [Nat.zero_add] at this
theorem there_set {w : World} {b n : Nat} (h : w.there b 0 n) (b' i : Nat) (v : Value) : (w.setCell ⟨b', i, none⟩ v).there b 0 n := World.there_setCells h b' i [v]
theorem cell_set {w : World} {b i b' i' : Nat} {v u : Value} (h : w.cell? ⟨b, i, none⟩ = some v) (hne : ¬ (b = b' ∧ i = i')) : (w.setCell ⟨b', i', none⟩ u).cell? ⟨b, i, none⟩ = some v := by
  rw [World.cell?_setCell_other _ _ _ _ (fun e => hne (by injection e with e1 e2; exact ⟨e1.symm, e2.symm⟩))]
  exact h

/-- Choice c goes above choice d, where A holds the words of the activities. -/
def bef (A : Nat → Nat) (c d : Nat) : Bool :=
  match FloatKind.f64.format.order (A c) (A d) with
  | some .gt => true
  | some .eq => decide (c < d)
  | _ => false
def best (A : Nat → Nat) (m : Nat) (e : Nat → Nat) (k : Nat) : Nat := if 2 * k + 2 < m ∧ bef A (e (2 * k + 2)) (e (2 * k + 1)) = true then 2 * k + 2 else 2 * k + 1
def swp (e : Nat → Nat) (i j : Nat) : Nat → Nat := fun t => if t = i then e j else if t = j then e i else e t
def sift (A : Nat → Nat) (m : Nat) : Nat → (Nat → Nat) → Nat → Nat → Nat
  | 0, e, _ => e
  | g + 1, e, k => if 2 * k + 1 < m then (if bef A (e (best A m e k)) (e k) = true then sift A m g (swp e k (best A m e k)) (best A m e k) else e) else e
def Inj (m : Nat) (e : Nat → Nat) : Prop := ∀ i j, i < m → j < m → e i = e j → i = j
def Fits (m n : Nat) (e : Nat → Nat) : Prop := Inj m e ∧ ∀ i, i < m → e i < n

theorem best_lt (A : Nat → Nat) (m : Nat) (e : Nat → Nat) (k : Nat) (h : 2 * k + 1 < m) : best A m e k < m ∧ k < best A m e k := by
  unfold best
  split <;> omega
theorem swp_fits {m n : Nat} {e : Nat → Nat} (h : Fits m n e) {i j : Nat} (hi : i < m) (hj : j < m) : Fits m n (swp e i j) := by
  refine ⟨fun s t hs ht he => ?_, fun s hs => ?_⟩
  · simp only [swp] at he
    by_cases s1 : s = i <;> by_cases s2 : s = j <;> by_cases t1 : t = i <;> by_cases t2 : t = j <;> simp [s1, s2, t1, t2] at he <;> try omega
    all_goals
      first
      | (have := h.1 _ _ (by omega) (by omega) he; omega)
      | (have := h.1 _ _ (by omega) (by omega) (he (by omega)); omega)
      | (split at he <;> (have := h.1 _ _ (by omega) (by omega) he; omega))
  · simp only [swp]
    split
    · exact h.2 _ hj
    · split
      · exact h.2 _ hi
      · exact h.2 _ hs
theorem sift_fits (A : Nat → Nat) {m n : Nat} : ∀ g {e : Nat → Nat} {k : Nat}, Fits m n e → k < m → Fits m n (sift A m g e k)
  | 0, e, k, h, hk => h
  | g + 1, e, k, h, hk => by
    rw [sift]
    by_cases h1 : 2 * k + 1 < m
    · rw [if_pos h1]
      obtain ⟨b1, b2⟩ := best_lt A m e k h1
      split
      · exact sift_fits A g (swp_fits h hk b1) b1
      · exact h
    · rw [if_neg h1]; exact h

/-- p is the place of each choice in e, one more than its index; 0 where it is not in it. -/
def PlaceOf (m : Nat) (e p : Nat → Nat) : Prop := (∀ j, j < m → p (e j) = j + 1) ∧ ∀ v, (∀ j, j < m → e j ≠ v) → p v = 0
theorem PlaceOf.same {m : Nat} {e p p' : Nat → Nat} (h : PlaceOf m e p) (h' : PlaceOf m e p') (v : Nat) : p v = p' v := by
  by_cases hv : ∃ j, j < m ∧ e j = v
  · obtain ⟨j, hj, rfl⟩ := hv
    rw [h.1 j hj, h'.1 j hj]
  · have hn : ∀ j, j < m → e j ≠ v := fun j hj e => hv ⟨j, hj, e⟩
    rw [h.2 v hn, h'.2 v hn]

set_option maxHeartbeats 1000000 in
set_option maxRecDepth 100000 in
theorem bef18 (a0 : Option Addr) (n cap ab ao : Nat) (A : Nat → Nat) (c d : Nat) (w : World) (hc : c < n) (hd : d < n)
    (ix : Hid (∀ i, i < n → ∀ wx, Sem.run Yba.prog (Instr.indexAt 56 (.slice a0 n cap) (.int .i64 (i : Int))) wx = .ok (.pointer (some ⟨ab, ao + i, none⟩)) wx))
    (hA : Hid (∀ i, i < n → w.cell? ⟨ab, ao + i, none⟩ = some (.float .f64 (A i)))) :
    Calls Yba.prog 18 #[.slice a0 n cap, .int .i64 (c : Int), .int .i64 (d : Int)] w fun e w' => e = .returned (.bool (bef A c d)) ∧ ∃ q, w' = w.drewN q := by
  have j1 := ix.out c hc
  have j2 := ix.out d hd
  have c1 := hA.out c hc
  have c2 := hA.out d hd
  have hb : Hid (bef A c d = (match FloatKind.f64.format.order (A c) (A d) with | some .gt => true | some .eq => decide (c < d) | _ => false)) := by unfold bef; rfl
  go_enter Yba.func18, Yba.ntmps18
  go_wp2_with fail
  go_quiet (fail)
  go_wp2_with fail
  all_goals
    go_ret
    refine ⟨?_, _, rfl⟩
    rw [hb.out]
    split <;> simp_all

set_option maxHeartbeats 1000000 in
set_option maxRecDepth 100000 in
theorem bef19 (V b n : Nat) (A : Nat → Nat) (c d : Nat) (w : World) (hc : c < n) (hd : d < n)
    (hV : w.cell? ⟨V, 0, none⟩ = some (.slice (some ⟨b, 0, none⟩) n n))
    (hA : Hid (∀ i, i < n → w.cell? ⟨b, i, none⟩ = some (.float .f64 (A i)))) :
    Calls Yba.prog 19 #[.pointer (some ⟨V, 0, none⟩), .int .i64 (c : Int), .int .i64 (d : Int)] w fun e w' => e = .returned (.bool (bef A c d)) ∧ ∃ q, w' = w.drewN q := by
  have c1 := hA.out c hc
  have c2 := hA.out d hd
  have hb : Hid (bef A c d = (match FloatKind.f64.format.order (A c) (A d) with | some .gt => true | some .eq => decide (c < d) | _ => false)) := by unfold bef; rfl
  by_cases hgt : FloatKind.f64.format.order (A c) (A d) = some .gt
  · have g1 : (FloatKind.f64.format.order (A c) (A d) == some .gt) = true := by simp [hgt]
    have HG := hide hgt
    clear hgt
    go_enter Yba.func19, Yba.ntmps19
    go_wp2_with fail
    go_quiet (fail)
    go_wp2
    go_ret
    exact ⟨by rw [hb.out, HG.out]; rfl, _, rfl⟩
  · have g1 : (FloatKind.f64.format.order (A c) (A d) == some .gt) = false := by simp [hgt]
    have HG := hide hgt
    clear hgt
    by_cases heq : FloatKind.f64.format.order (A c) (A d) = some .eq
    · have g2 : (FloatKind.f64.format.order (A c) (A d) == some .eq) = true := by simp [heq]
      have HE := hide heq
      clear heq
      go_enter Yba.func19, Yba.ntmps19
      go_wp2_with fail
      go_quiet (fail)
      go_wp2
      go_ret
      exact ⟨by rw [hb.out, HE.out]; rfl, _, rfl⟩
    · have g2 : (FloatKind.f64.format.order (A c) (A d) == some .eq) = false := by simp [heq]
      have HE := hide heq
      clear heq
      go_enter Yba.func19, Yba.ntmps19
      go_wp2_with fail
      go_quiet (fail)
      go_wp2
      go_ret
      refine ⟨?_, _, rfl⟩
      rw [hb.out]
      have h1 := HG.out
      have h2 := HE.out
      split <;> simp_all

set_option maxHeartbeats 1000000 in
set_option maxRecDepth 100000 in
theorem put20 (V cb pb m n k x : Nat) (w : World) (hk : k < m) (hx : x < n) (hm : m ≤ 65536) (hVc : ¬ V = cb) (hcp : ¬ cb = pb)
    (h1 : w.cell? ⟨V, 1, none⟩ = some (.slice (some ⟨pb, 0, none⟩) n n)) (h2 : w.cell? ⟨V, 2, none⟩ = some (.slice (some ⟨cb, 0, none⟩) m m))
    (hc : Hid (w.there cb 0 m)) (hp : Hid (w.there pb 0 n)) :
    Calls Yba.prog 20 #[.pointer (some ⟨V, 0, none⟩), .int .i64 (k : Int), .int .i64 (x : Int)] w fun e w' => e = .returned (.tuple #[]) ∧ w' = (w.setCell ⟨cb, k, none⟩ (.int .i64 (x : Int))).setCell ⟨pb, x, none⟩ (.int .i64 ((k + 1 : Nat) : Int)) := by
  obtain ⟨v1, c1⟩ := there_cell hc.out k hk
  obtain ⟨v2, c2⟩ := there_cell hp.out x hx
  have f1 := there_frozen hc.out k hk
  have f2 := there_frozen hp.out x hx
  go_enter Yba.func20, Yba.ntmps20
  go_wp2
  go_end0
  exact ⟨rfl, by congr 2⟩
end Go.Proofs.Ybulkeepk.Hp

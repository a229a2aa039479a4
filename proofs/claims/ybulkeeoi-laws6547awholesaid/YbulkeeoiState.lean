import Derived.Test.YbulkeeoiBase
import Derived.Test.YbulkeeoiMath
import Derived.Deep.MidRow
import Derived.LaidEqlPtr
namespace Go.Proofs.Ybulkeeoi
open Go.RowKit
set_option linter.unusedVariables false

theorem hide {p : Prop} (h : p) : Hid p := h
theorem top (w : World) (o : Obj) (k : Nat) (h : k = w.heap.size) : (w.alloc o).heap[k]? = some o := by subst h; show (w.heap.push _)[w.heap.size]? = _; simp
theorem turned_size {w w' : World} {b : Nat} (h : w.mapTurned w' b) : w'.heap.size = w.heap.size := by
  obtain ⟨es, clock, es', clock', _, rfl⟩ := h
  simp [Go.ChangeMaps.setBlock]
theorem law9 : Maps.Keyed Yba.prog 9 := Maps.string_keyed Yba.underlying9
/-- How the elements of the map are told: as they are. -/
def RV (v : Value) : Option (DataW Value × List MemPlace) := some (.held v, [])
theorem RV_inj {v : Value} {d : DataW Value} {ps : List MemPlace} (h : RV v = some (d, ps)) : d = .held v := by
  simp [RV] at h; exact h.1.symm
theorem info40 : (Yba.prog.info? 40).map (fun i => (i.zero, i.size, i.bytes)) = some (some (.agg (bc { data := #[] } { data := #[] } { data := #[] } 0 0)), 15, 200) := by kernel_rfl

/-- The element of key number j. -/
def vj (B j : Nat) : Value := .slice (some ⟨B + 1 + j, 0, none⟩) 1 1
def dj (B j : Nat) : DataW Value := .held (vj B j)


/-- The empty binding but for its id. -/
abbrev bid (j : Nat) : Array Value := bc { data := #[] } { data := #[] } { data := #[] } 0 j

/-- The empty binding. -/
abbrev zc : Array Value := bc { data := #[] } { data := #[] } { data := #[] } 0 0

/-- What stands all along: nothing old has turned; block B is the map; behind it lie the keys' elements. -/
structure St (w : World) (len1 : Nat) (n : Nat) (D : DataW Value) (wr : World) : Prop where
  below : Below w.heap.size w wr
  own : wr.ownsMap Yba.prog 9 RV w.heap.size n D
  elem : ∀ j, j < len1 → wr.heap[w.heap.size + 1 + j]? = some (.cells (bid j) 40 (0, 0))
  size : w.heap.size + 1 + len1 ≤ wr.heap.size

theorem ownsMap_block {w w' : World} {B n : Nat} {D : DataW Value} (h : w.ownsMap Yba.prog 9 RV B n D) (e : w'.heap[B]? = w.heap[B]?) : w'.ownsMap Yba.prog 9 RV B n D := by
  obtain ⟨es, clock, hb, r⟩ := h
  exact ⟨es, clock, by rw [e]; exact hb, r⟩

/-- Blocks from B + 1 + len1 on may turn. -/
theorem St.later {w wr wr' : World} {len1 n : Nat} {D : DataW Value} (h : St w len1 n D wr) (hb : Below (w.heap.size + 1 + len1) wr wr') : St w len1 n D wr' :=
  ⟨h.below.trans (hb.mono (by omega)), ownsMap_block h.own (hb.block _ (by omega)), fun j hj => by rw [hb.block _ (by omega)]; exact h.elem j hj, Nat.le_trans h.size hb.size⟩

theorem cell_lt {w : World} {a : Addr} {v : Value} (h : w.cell? a = some v) : a.block < w.heap.size := by
  rcases Nat.lt_or_ge a.block w.heap.size with h' | h'
  · exact h'
  · simp [World.cell?, Array.getElem?_eq_none h'] at h
theorem range_below {w w' : World} {b o : Nat} {cs : List Value} (h : w.rangeAt b o cs) (hb : Below w.heap.size w w') : w'.rangeAt b o cs := by
  intro j v hv
  have := h j v hv
  rw [hb.cell (cell_lt this)]
  exact this
theorem below_setCells {B b : Nat} {a : World} (hb : B ≤ b) : ∀ (vs : List Value) (o : Nat) (w : World), Below B a w → Below B a (w.setCells b o vs)
  | [], _, _, h => h
  | v :: r, o, w, h => below_setCells hb r (o + 1) _ (h.setCell hb v)

theorem bc_one (u c p : ByteArray) (q d : Int) : (bc u c p q d).all (·.oneCell') = true := by simp [Value.oneCell']
theorem size40 (u c p : ByteArray) (q d : Int) : (Yba.prog.info? 40).map (·.size) = some (bc u c p q d).size := by
  obtain ⟨i0, hi, hz0, hz1, hz2⟩ := info_parts info40
  rw [hi]; simp [hz1]
theorem wpList_store40 {ops : Array Oper} {rest : List Oper} {op : Oper} {a : Act} {w : World} {Q : Exit → Act → World → Prop} (hgd : op.guard = none) (x y : Operand) (ho : op.op = .store 40 x y)
    (b o : Nat) (u c p : ByteArray) (q d : Int) (hx : a.eval x = .pointer (some ⟨b, o, none⟩)) (hy : a.eval y = .agg (bc u c p q d)) (ht : w.there b o 15)
    (h : ∀ w', Hid (w' = w.setCells b o (bc u c p q d).toList) → wpList Yba.prog ops Q rest (a.put op.dst undef) w') : wpList Yba.prog ops Q (op :: rest) a w :=
  wpList_store_mid hgd 40 x y ho b o (bc u c p q d) hx hy ht (size40 u c p q d) (bc_one u c p q d) (h _ rfl)
theorem ix41 (M len c i : Nat) (hi : i < len) (w : World) : Sem.run Yba.prog (Instr.indexAt 41 (.slice (some ⟨M, 0, none⟩) len c) (.int .i64 (i : Int))) w = .ok (.pointer (some ⟨M, i * 15, none⟩)) w := by
  have h1 : (0 : Int) ≤ (i : Int) ∧ (i : Int) < (len : Int) := by omega
  have hu : Yba.prog.elem 41 = 40 := by kernel_rfl
  rw [run_indexAt_slice w 41 ⟨M, 0, none⟩ len c .i64 i (by rw [hu]; exact Yba.underlying41), if_pos h1, hu, Yba.sizeOf40]
  simp [Addr.add_mid]

theorem run_make40 (w : World) (n : Nat) (hn : n ≤ 1048576) :
    Sem.run Yba.prog (Instr.makeSlice 41 (.int .i64 (n : Int)) (.int .i64 (n : Int))) w = .ok (.slice (some ⟨w.heap.size, 0, none⟩) n n) (w.alloc (.cells (madeCells zc (n * 15)) 40)) := by
  obtain ⟨i0, hi, hz0, hz1, hz2⟩ := info_parts info40
  have h := run_make (P := Yba.prog) w 41 40 i0 _ Yba.underlying41 hi hz0 .i64 .i64 n n (by omega) (by omega) (by rw [hz2]; omega) (by omega)
  rw [hz1] at h
  simpa [Value.cells] using h

theorem there_of {w : World} {b : Nat} {C : Array Value} {t : TypeId} (hb : w.heap[b]? = some (.cells C t (0, 0))) : w.there b 0 C.size := by
  intro j hj
  rw [Nat.zero_add]
  exact ⟨by simp [World.cell?, hb, hj], by simp [World.frozen?, hb]⟩
theorem there_sub {w : World} {b n o m : Nat} (h : w.there b 0 n) (hm : o + m ≤ n) : w.there b o m := by
  intro j hj
  have := h (o + j) (by omega)
  rwa [Nat.zero_add] at this
theorem there_made (w : World) (n : Nat) : (w.alloc (.cells (madeCells zc n) 40)).there w.heap.size 0 n := by
  have h := there_of (top w (.cells (madeCells zc n) 40) _ rfl)
  rwa [size_madeCells] at h

set_option maxHeartbeats 1000000 in
set_option maxRecDepth 100000 in
/-- setBindings with no binding: the key is struck. -/
theorem set5_none (r B n : Nat) (D : DataW Value) (s : ByteArray) (a : Option Addr) (c : Nat) (w : World) (hs : s.size ≤ maxLen) (hr : w.cell? ⟨r, 14, none⟩ = some (.map (some B))) (hO : Hid (w.ownsMap Yba.prog 9 RV B n D)) :
    Calls Yba.prog 5 #[.pointer (some ⟨r, 0, none⟩), .string s, .slice a 0 c] w fun e w' => e = .returned (.tuple #[]) ∧ w'.ownsMap Yba.prog 9 RV B n (D.del (.string s.data.toList)) ∧ w.mapTurned w' B := by
  go_enter Yba.func5, Yba.ntmps5
  go_wp2_with (first | (at_delete; refine wpList_delete_own _ rfl _ _ 24 9 rfl 41 law9 Yba.underlying24 RV B n D rfl hO.out _ _ rfl (Go.WideMaps.keyOf_string_mk Yba.underlying9 hs) ?_; intro w1 hown1 hturn1))
  go_end0
  exact ⟨rfl, hown1, hturn1⟩

set_option maxHeartbeats 1000000 in
set_option maxRecDepth 100000 in
/-- setBindings with bindings: they are laid at the key. -/
theorem set5_some (r B n : Nat) (D : DataW Value) (s : ByteArray) (a : Option Addr) (l c : Nat) (w : World) (hl : 0 < l) (hn : n ≤ 4096) (hs : s.size ≤ maxLen) (hr : w.cell? ⟨r, 14, none⟩ = some (.map (some B))) (hO : Hid (w.ownsMap Yba.prog 9 RV B n D)) :
    Calls Yba.prog 5 #[.pointer (some ⟨r, 0, none⟩), .string s, .slice a l c] w fun e w' => e = .returned (.tuple #[]) ∧ w'.ownsMap Yba.prog 9 RV B (n + 1) (D.put (.string s.data.toList) (.held (.slice a l c))) ∧ w.mapTurned w' B := by
  have hd : ((l : Int) == 0) = false := by simp; omega
  go_enter Yba.func5, Yba.ntmps5
  go_wp2_with (first | (at_mapUpdate; refine wpList_mapUpdate_in _ rfl _ _ _ 24 rfl 9 41 law9 Yba.underlying24 RV B n D rfl hO.out ?k1 _ _ (.string s.data.toList) rfl rfl (Go.WideMaps.keyOf_string_mk Yba.underlying9 hs) _ [] rfl ?_))
  case k1 => unfold maxLen; omega
  intro w1 hown1 hturn1
  go_wp2
  go_end0
  exact ⟨rfl, hown1, hturn1⟩

/-- The map behind setBindings. -/
def Df (D : DataW Value) (A : Lit) (v : Value) (l : Nat) : DataW Value := if l = 0 then D.del A else D.put A (.held v)

theorem set5 (r B n : Nat) (D : DataW Value) (s : ByteArray) (a : Option Addr) (l c : Nat) (w : World) (hn : n ≤ 4096) (hs : s.size ≤ maxLen) (hr : w.cell? ⟨r, 14, none⟩ = some (.map (some B))) (hO : w.ownsMap Yba.prog 9 RV B n D) :
    Calls Yba.prog 5 #[.pointer (some ⟨r, 0, none⟩), .string s, .slice a l c] w fun e w' => e = .returned (.tuple #[]) ∧ w'.ownsMap Yba.prog 9 RV B (n + 1) (Df D (.string s.data.toList) (.slice a l c) l) ∧ w.mapTurned w' B := by
  rcases Nat.eq_zero_or_pos l with h | h
  · subst h
    refine (set5_none r B n D s a c w hs hr hO).mono ?_
    rintro e w' ⟨rfl, h1, h2⟩
    exact ⟨rfl, h1.mono (by omega), h2⟩
  · refine (set5_some r B n D s a l c w h hn hs hr hO).mono ?_
    rintro e w' ⟨rfl, h1, h2⟩
    refine ⟨rfl, ?_, h2⟩
    unfold Df
    rw [if_neg (by omega)]
    exact h1

/-- What stands behind setBindings, for good. -/
structure Fa (w : World) (len1 len2 Rg : Nat) (D : DataW Value) (U C Pr : Nat → ByteArray) (Q Id : Nat → Int) (w7 : World) : Prop where
  below : Below w.heap.size w w7
  own : w7.ownsMap Yba.prog 9 RV w.heap.size (len1 + 1) D
  elem : ∀ j, j < len1 → w7.heap[w.heap.size + 1 + j]? = some (.cells (bid j) 40 (0, 0))
  rows : ∀ j, j < len2 → w7.rangeAt (w.heap.size + 1 + len1) (j * 15) (bc (U j) (C j) (Pr j) (Q j) (Id j)).toList
  reg : w7.cell? ⟨Rg, 14, none⟩ = some (.map (some w.heap.size))

theorem Fa.later {w : World} {len1 len2 Rg : Nat} {D : DataW Value} {U C Pr : Nat → ByteArray} {Q Id : Nat → Int} {w7 wr : World} (h : Fa w len1 len2 Rg D U C Pr Q Id w7) (hb : Below w7.heap.size w7 wr) : Fa w len1 len2 Rg D U C Pr Q Id wr := by
  have hsz := h.below.size
  have hB := h.own.lt
  refine ⟨h.below.trans (hb.mono hsz), ownsMap_block h.own (hb.block _ hB), fun j hj => ?_, fun j hj => range_below (h.rows j hj) hb, ?_⟩
  · have := h.elem j hj
    rw [hb.block _ (Array.getElem?_eq_some_iff.1 this).1]; exact this
  · rw [hb.cell (cell_lt h.reg)]; exact h.reg

theorem Fa.mk' {w wc w7 : World} {len1 len2 n : Nat} {D D' : DataW Value} {U C Pr : Nat → ByteArray} {Q Id : Nat → Int} {reg : Array Value} (h : St w len1 n D wc)
    (hR : ∀ j, j < len2 → wc.rangeAt (w.heap.size + 1 + len1) (j * 15) (bc (U j) (C j) (Pr j) (Q j) (Id j)).toList)
    (hreg : reg[14]? = some (.map (some w.heap.size))) (hO : w7.ownsMap Yba.prog 9 RV w.heap.size (len1 + 1) D') (hT : (wc.alloc (.cells reg 64)).mapTurned w7 w.heap.size) : Fa w len1 len2 wc.heap.size D' U C Pr Q Id w7 := by
  have hg := hT.grown
  have hB := h.own.lt
  have hsz := h.size
  have hblk : ∀ b, b < wc.heap.size → b ≠ w.heap.size → w7.heap[b]? = wc.heap[b]? := fun b hb hne => by
    rw [hg.block b (by simp; omega) (by simpa using hne), Below.heap_alloc _ _ _ hb]
  refine ⟨(h.below.alloc h.below.size _).grown hg (by simp; have := h.below.size; omega) (fun k hk => by cases hk; exact Nat.le_refl _), hO, fun j hj => ?_, fun j hj => ?_, ?_⟩
  · rw [hblk _ (by omega) (by omega)]; exact h.elem j hj
  · intro t v hv
    have h1 := hR j hj t v hv
    rw [World.cell?_of_block (w := wc) (hblk _ (cell_lt h1) (by show w.heap.size + 1 + len1 ≠ _; omega))]
    exact h1
  · have ht : w7.heap[wc.heap.size]? = some (.cells reg 64 (0, 0)) := by
      rw [hg.block _ (by simp) (by simp; omega)]
      exact top _ _ _ rfl
    simp [World.cell?, ht, hreg]

theorem wpList_look {ops : Array Oper} {rest : List Oper} {o : Oper} {a : Act} {w : World} {Q : Exit → Act → World → Prop} (hg : o.guard = none) (m x : Operand) (hop : o.op = Op.lookup 24 m x true)
    (B n : Nat) (D : DataW Value) (hm : a.eval m = .map (some B)) (s : ByteArray) (hx : a.eval x = .string s) (v0 : Value) (b : Bool) (hown : w.ownsMap Yba.prog 9 RV B n D) (hs : s.size ≤ maxLen)
    (hat : D.atKey (.string s.data.toList) (.held (.slice none 0 0)) = .held v0) (hb : Maps.has D (.string s.data.toList) = b) (hK : wpList Yba.prog ops Q rest (a.put o.dst (.tuple #[v0, .bool b])) w) : wpList Yba.prog ops Q (o :: rest) a w := by
  refine wpList_lookup_own_ok w hg m x 24 hop 9 41 law9 Yba.underlying24 RV (Yba.zeroValue41 w) (.held (.slice none 0 0)) [] rfl B n D hm hown _ _ hx (Go.WideMaps.keyOf_string_mk Yba.underlying9 hs) ?_
  intro v ps hv
  have h1 := RV_inj hv
  rw [hat] at h1
  injection h1 with h1
  subst h1
  rw [hb]
  exact hK

section
variable (S : Nat → List UInt8) (B : Nat) (A : List UInt8) (v : Value) (l n : Nat)
theorem Df_key {k j : Nat} (hk : S k ≠ A) (hj : j < n) (e : S j = S k) (hl : ∀ i, j < i → i < n → S i ≠ S k) (z : DataW Value) : (Df (Dk (kS S) (dj B) n) (.string A) v l).atKey (.string (S k)) z = .held (vj B j) := by
  have hne : Lit.string (S k) ≠ Lit.string A := by simpa using hk
  have h := at_Dk (kS S) (dj B) (key_kS S) z (.string (S k)) j n hj (by simp [kS, e]) (fun i h1 h2 => by simpa [kS] using hl i h1 h2)
  unfold Df
  split
  · rw [Maps.atKey_del_other hne]; exact h
  · rw [Maps.atKey_put_other hne]; exact h
theorem Df_has {k j : Nat} (hk : S k ≠ A) (hj : j < n) (e : S j = S k) : Maps.has (Df (Dk (kS S) (dj B) n) (.string A) v l) (.string (S k)) = true := by
  have hne : Lit.string (S k) ≠ Lit.string A := by simpa using hk
  have h : Maps.has (Dk (kS S) (dj B) n) (.string (S k)) = true := (has_kS S (dj B) (S k) n).2 ((anyB_iff S n (S k)).2 ⟨j, hj, e⟩)
  unfold Df
  split
  · rw [Maps.has_del_other hne]; exact h
  · rw [Maps.has_put_other hne]; exact h
theorem Df_none (hl : l = 0) : Maps.has (Df (Dk (kS S) (dj B) n) (.string A) v l) (.string A) = false := by
  unfold Df; rw [if_pos hl]; exact Maps.has_del_same
theorem Df_none_at (hl : l = 0) (z : DataW Value) : (Df (Dk (kS S) (dj B) n) (.string A) v l).atKey (.string A) z = z := by
  unfold Df; rw [if_pos hl]; exact Maps.atKey_del_same z
theorem Df_some (hl : 0 < l) : Maps.has (Df (Dk (kS S) (dj B) n) (.string A) v l) (.string A) = true := by
  unfold Df; rw [if_neg (by omega)]; exact Maps.has_put_same (isMap_Dk _ _ _) (by simp [WideAt.IsKeyLit]) _
theorem Df_some_at (hl : 0 < l) (z : DataW Value) : (Df (Dk (kS S) (dj B) n) (.string A) v l).atKey (.string A) z = .held v := by
  unfold Df; rw [if_neg (by omega)]; exact Maps.atKey_put_same (isMap_Dk _ _ _) (by simp [WideAt.IsKeyLit]) _ z
theorem Df_size : Maps.size (Df (Dk (kS S) (dj B) n) (.string A) v l) = cntA S A n + if l = 0 then 0 else 1 := by
  unfold Df
  split
  · rw [size_del_Dk]; rfl
  · rw [size_put_Dk]

/-- What the inner loop knows after j keys. -/
def Last (k j last : Nat) : Prop := (last = k ∧ ∀ i, i < j → S i ≠ S k) ∨ (last < j ∧ S last = S k ∧ ∀ i, last < i → i < j → S i ≠ S k)
theorem Last.hit {k j : Nat} (e : S j = S k) : Last S k (j + 1) j := .inr ⟨by omega, e, fun i h1 h2 => by omega⟩
theorem Last.miss {k j last : Nat} (h : Last S k j last) (e : S j ≠ S k) : Last S k (j + 1) last := by
  rcases h with ⟨h1, h2⟩ | ⟨h1, h2, h3⟩
  · exact .inl ⟨h1, fun i hi => by by_cases x : i = j; · rw [x]; exact e
                                   · exact h2 i (by omega)⟩
  · exact .inr ⟨by omega, h2, fun i hi hij => by by_cases x : i = j; · rw [x]; exact e
                                                 · exact h3 i hi (by omega)⟩
theorem Last.done {k m last : Nat} (h : Last S k m last) (hk : k < m) : last < m ∧ S last = S k ∧ ∀ i, last < i → i < m → S i ≠ S k := by
  rcases h with ⟨_, h2⟩ | h
  · exact absurd rfl (h2 k hk)
  · exact h
theorem any_hit {k j : Nat} (e : S j = S k) (hj : j < k) : anyB S (min (j + 1) k) (S k) = true := (anyB_iff S _ _).2 ⟨j, by omega, e⟩
theorem any_past {k j : Nat} (hj : ¬ j < k) : anyB S (min (j + 1) k) (S k) = anyB S (min j k) (S k) := by
  rw [show min (j + 1) k = k by omega, show min j k = k by omega]
theorem any_miss {k j : Nat} (e : S j ≠ S k) : anyB S (min (j + 1) k) (S k) = anyB S (min j k) (S k) := by
  by_cases hj : j < k
  · rw [show min (j + 1) k = j + 1 by omega, show min j k = j by omega, Bool.eq_iff_iff, anyB_iff, anyB_iff]
    constructor
    · rintro ⟨i, hi, h⟩
      by_cases x : i = j
      · subst x; exact absurd h e
      · exact ⟨i, by omega, h⟩
    · rintro ⟨i, hi, h⟩; exact ⟨i, by omega, h⟩
  · exact any_past S hj
theorem cntA_skip {k : Nat} (e : S k = A) : cntA S A (k + 1) = cntA S A k := by rw [cntA, if_pos (.inl e)]; rfl
theorem cntA_again {k : Nat} (e : anyB S k (S k) = true) : cntA S A (k + 1) = cntA S A k := by rw [cntA, if_pos (.inr e)]; rfl
theorem cntA_new {k : Nat} (hk : S k ≠ A) (e : anyB S k (S k) = false) : cntA S A (k + 1) = cntA S A k + 1 := by rw [cntA, if_neg (by rw [e]; simpa using hk)]
end
theorem pn68 (a : Addr) (w : World) : (binOp .neq 68 (.pointer (some a)) (.pointer (some a))).run Yba.prog w = .ok (.bool false) w := by
  have h : ∀ d : Nat, (Op.equalIn (d + 1) 68 (.pointer (some a)) (.pointer (some a))).run Yba.prog w = .ok true w := fun d => by
    simp [Op.equalIn, run_underlying Yba.underlying68, Yba.sizeOf40, run_sameAddr_same]
  simp only [binOp]
  simp [Op.equal, Op.maxDepth, h 9999]
theorem str_eq {a b : ByteArray} (h : (a.toList == b.toList) = true) : a.data.toList = b.data.toList := by
  rw [ByteArray.toList_eq, ByteArray.toList_eq] at h; exact eq_of_beq h
theorem str_ne {a b : ByteArray} (h : (a.toList == b.toList) = false) : a.data.toList ≠ b.data.toList := by
  intro e
  rw [ByteArray.toList_eq, ByteArray.toList_eq, e] at h
  simp at h
end Go.Proofs.Ybulkeeoi

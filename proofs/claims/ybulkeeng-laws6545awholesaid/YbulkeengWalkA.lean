import Derived.Test.YbulkeengSlices
import Derived.Laws.EntriesVeiled
import Derived.LaidEqlPtr
namespace Go.Proofs.Ybulkeeng
open Go.RowKit
theorem zero43 (w : World) : Sem.run Yba.prog (zeroValue 43) w = .ok (.agg #[.nilIface, .pointer none, .int .u8 0, .int .u8 0, .int .u8 0, .int .u8 0, .int .u8 0, .int .u8 0, .int .u8 0, .int .u8 0, .int .u8 0, .int .u8 0, .int .u8 0, .int .u8 0, .int .u8 0, .int .u8 0, .int .u8 0, .int .u8 0, .int .u8 0, .int .u8 0, .int .u8 0, .int .u8 0, .int .u8 0, .int .u8 0, .int .u8 0, .int .u8 0, .int .u8 0, .int .u8 0, .int .u8 0, .int .u8 0, .int .u8 0, .int .u8 0, .int .u8 0, .int .u8 0, .int .u8 0, .int .u8 0, .int .u8 0, .int .u8 0, .int .u8 0, .int .u8 0, .int .u8 0, .int .u8 0, .int .u8 0, .int .u8 0, .int .u8 0, .int .u8 0, .int .u8 0, .int .u8 0, .int .u8 0, .int .u8 0, .nilFunc, .slice none 0 0, .int .i64 0, .int .i64 0, .bool false, .bool false, .bool false, .slice none 0 0, .slice none 0 0, .bool false, .int .i64 0, .chan none, .nilIface, .slice none 0 0, .pointer none]) w := by kernel_rfl
theorem fn_neq0 (w : World) : Sem.run Yba.prog (binOp .neq 36 .nilFunc .nilFunc) w = .ok (.bool false) w := by kernel_rfl
theorem fn_eql0 (w : World) : Sem.run Yba.prog (binOp .eql 36 .nilFunc .nilFunc) w = .ok (.bool true) w := by kernel_rfl
theorem fn_neq1 (f : Fn) (a b : Array Value) (w : World) : Sem.run Yba.prog (binOp .neq 36 (.func f a b) .nilFunc) w = .ok (.bool true) w := by kernel_rfl
theorem fn_eql1 (f : Fn) (a b : Array Value) (w : World) : Sem.run Yba.prog (binOp .eql 36 (.func f a b) .nilFunc) w = .ok (.bool false) w := by kernel_rfl
theorem if26 (w : World) : Sem.run Yba.prog (binOp .neq 26 .nilIface .nilIface) w = .ok (.bool false) w := by kernel_rfl
theorem if40 (w : World) : Sem.run Yba.prog (binOp .neq 40 .nilIface .nilIface) w = .ok (.bool false) w := by kernel_rfl
theorem q22 (w : World) (a : Option Addr) (n c n' c' : Nat) : (binOp .eql 22 (.slice a n c) (.slice none n' c')).run Yba.prog w = .ok (.bool a.isNone) w := Lib.run_eql_slice_nil w _ _ a n c n' c' Yba.underlying22
theorem q22' (w : World) (a : Option Addr) (n c n' c' : Nat) : (binOp .neq 22 (.slice a n c) (.slice none n' c')).run Yba.prog w = .ok (.bool (!a.isNone)) w := run_neq_slice_nil_any w _ _ a n c n' c' Yba.underlying22
theorem q37' (w : World) (a : Option Addr) (n c n' c' : Nat) : (binOp .neq 37 (.slice a n c) (.slice none n' c')).run Yba.prog w = .ok (.bool (!a.isNone)) w := run_neq_slice_nil_any w _ _ a n c n' c' Yba.underlying37
set_option maxHeartbeats 1000000 in
set_option maxRecDepth 100000 in
theorem walkA_big (a0 : Bool) (a1 : Option Addr) (len1 cap1 : Nat) (a2 : Bool) (w : World) (h : 1048576 < len1) :
    Calls Yba.prog 3 #[.bool a0, .slice a1 len1 cap1, .bool a2] w fun e w' => e = .returned (.bool true) ∧ Below w.heap.size w w' := by
  go_enter Yba.func3, Yba.ntmps3
  go_wp2_with fail
  go_ret
  exact ⟨rfl, Below.refl _ _⟩

theorem pn45 (a : Addr) (w : World) : (binOp .neq 45 (.pointer (some a)) (.pointer (some a))).run Yba.prog w = .ok (.bool false) w := by
  obtain ⟨i0, hi, hz0, hz1, hz2⟩ := info_parts info5
  have h : ∀ d : Nat, (Op.equalIn (d + 1) 45 (.pointer (some a)) (.pointer (some a))).run Yba.prog w = .ok true w := fun d => by
    simp [Op.equalIn, run_underlying Yba.underlying45, Go.sizeOf, typeInfo, hi, run_sameAddr_same]
  simp only [binOp]
  simp [Op.equal, Op.maxDepth, h 9999]
theorem hide {p : Prop} (h : p) : Hid p := h
theorem unhide {p : Prop} (h : Hid p) : p := h
theorem four {w w' : World} (h : Below w.heap.size w w') (o1 o2 o3 o4 : Obj) : Below w.heap.size w ((((w'.alloc o1).alloc o2).alloc o3).alloc o4) := by
  have := h.size
  exact (((h.alloc this _).alloc (by simp; omega) _).alloc (by simp; omega) _).alloc (by simp; omega) _
theorem below_drewN' {B : Nat} {a w : World} (h : Below B a w) (n : Nat) : Below B a (w.drewN n) := h.trans ⟨rfl, rfl, rfl, Nat.le_refl _, fun _ _ => rfl⟩

/-- What the walk asks of the copy: it comes back, and Equal of the frame and the copy says true in every later world. -/
def CloneOk (a1 : Option Addr) (len1 cap1 : Nat) (w : World) : Prop :=
  Calls Yba.prog 5 #[.slice a1 len1 cap1] w fun e w' => ∃ v', e = .returned v' ∧ Below w.heap.size w w' ∧ ∀ wx, Below w'.heap.size w' wx → Calls Yba.prog 8 #[.slice a1 len1 cap1, v'] wx fun e w'' => e = .returned (.bool true) ∧ ∃ q, w'' = wx.drewN q

set_option maxHeartbeats 1000000 in
set_option maxRecDepth 100000 in
theorem walkA_f (a0 : Bool) (a1 : Option Addr) (len1 cap1 : Nat) (w : World) (hlen : len1 ≤ 1048576) (hcl : CloneOk a1 len1 cap1 w) :
    Calls Yba.prog 3 #[.bool a0, .slice a1 len1 cap1, .bool false] w fun e w' => e = .returned (.bool true) ∧ Below w.heap.size w w' := by
  have e1 := q22; have e2 := q22'; have e3 := q37'; have e4 := zero43; have e5 := fn_neq0; have e6 := fn_eql0; have e7 := fn_neq1; have e8 := fn_eql1; have e9 := if26; have e10 := if40
  go_enter Yba.func3, Yba.ntmps3
  go_wp2_with (first | (go_at_call 7; go_in) | (go_at_call 5; refine Calls.mono hcl ?_; rintro e w1 ⟨v', rfl, hb, heq⟩; have HQ := hide heq; clear heq))
  go_end0
  go_wp2_with (first | (go_at_call 8; refine (unhide HQ _ (four (Below.refl _ _) _ _ _ _)).mono ?_; rintro e w2 ⟨rfl, q, rfl⟩))
  go_ret
  exact ⟨rfl, below_drewN' (four hb _ _ _ _) _⟩

set_option maxHeartbeats 1000000 in
set_option maxRecDepth 100000 in
theorem walkA_t (a0 : Bool) (a1 : Option Addr) (len1 cap1 : Nat) (w : World) (hlen : len1 ≤ 1048576) (hcl : CloneOk a1 len1 cap1 w) (hz : len1 = 0) :
    Calls Yba.prog 3 #[.bool a0, .slice a1 len1 cap1, .bool true] w fun e w' => e = .returned (.bool true) ∧ Below w.heap.size w w' := by
  subst hz
  have e1 := q22; have e2 := q22'; have e3 := q37'; have e4 := zero43; have e5 := fn_neq0; have e6 := fn_eql0; have e7 := fn_neq1; have e8 := fn_eql1; have e9 := if26; have e10 := if40
  go_enter Yba.func3, Yba.ntmps3
  go_wp2_with (first | (go_at_call 7; go_in) | (go_at_call 6; go_in) | (go_at_call 5; refine Calls.mono hcl ?_; rintro e w1 ⟨v', rfl, hb, heq⟩; have HQ := hide heq; clear heq))
  go_end0
  go_wp2
  go_end0
  go_wp2_with (first | (go_at_call 8; refine (unhide HQ _ (four (Below.refl _ _) _ _ _ _)).mono ?_; rintro e w2 ⟨rfl, q, rfl⟩))
  go_quiet (fail)
  go_wp2_with (first | (go_at_call 8; refine (unhide HQ _ (below_drewN' (four (Below.refl _ _) _ _ _ _) _)).mono ?_; rintro e w2 ⟨rfl, q, rfl⟩))
  go_ret
  exact ⟨rfl, below_drewN' (four hb _ _ _ _) _⟩
set_option maxHeartbeats 1000000 in
set_option maxRecDepth 100000 in
theorem walkA_tp (a0 : Bool) (b o : Nat) (len1 cap1 : Nat) (w : World) (hlen : len1 ≤ 1048576) (hcl : CloneOk (some ⟨b, o, none⟩) len1 cap1 w) (hz : 0 < len1) :
    Calls Yba.prog 3 #[.bool a0, .slice (some ⟨b, o, none⟩) len1 cap1, .bool true] w fun e w' => e = .returned (.bool true) ∧ Below w.heap.size w w' := by
  have e0 := pn45; have e1 := q22; have e2 := q22'; have e3 := q37'; have e4 := zero43; have e5 := fn_neq0; have e6 := fn_eql0; have e7 := fn_neq1; have e8 := fn_eql1; have e9 := if26; have e10 := if40
  go_enter Yba.func3, Yba.ntmps3
  go_wp2_with (first | (go_at_call 7; go_in) | (go_at_call 6; go_in) | (go_at_call 5; refine Calls.mono hcl ?_; rintro e w1 ⟨v', rfl, hb, heq⟩; have HQ := hide heq; clear heq))
  go_end0
  go_wp2
  go_end0
  go_wp2_with (first | (go_at_call 8; refine (unhide HQ _ (four (Below.refl _ _) _ _ _ _)).mono ?_; rintro e w2 ⟨rfl, q, rfl⟩))
  go_quiet (fail)
  go_wp2_with (first | (go_at_call 8; refine (unhide HQ _ (below_drewN' (four (Below.refl _ _) _ _ _ _) _)).mono ?_; rintro e w2 ⟨rfl, q, rfl⟩))
  go_ret
  exact ⟨rfl, below_drewN' (four hb _ _ _ _) _⟩
end Go.Proofs.Ybulkeeng

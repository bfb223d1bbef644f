import Derived.Test.YbulkbqvgRows
import Derived.WalkKit
import Derived.WalkSpells
import Derived.WalkLawsBesides
import Derived.Below
import Derived.LaidEqlPtr
import Derived.Deep.QuietTactic
import Derived.BigQuiet
/-
  THE WALK OF 'LawS3373CFields' AND OF HER ONE CALLEE 'newScanner'.
-/
namespace Go.Proofs.Ybulkbqvg
open Go.RowKit

/-- the block that newScanner lays, as the model has its ten cells; b: the block of its indentation stack -/
def scan (b : Nat) (a0 : ByteArray) (a1 : Option Addr) (len1 cap1 : Nat) : Array Value :=
  #[.string a0, .slice a1 len1 cap1, .int .i64 0, .int .i32 1, .int .i64 0, .int .i64 0, .slice (some ⟨b, 0, none⟩) 1 1, .int .i64 0, .bool true, .int .u8 2]

set_option maxHeartbeats 400000 in
theorem new_any (a0 : ByteArray) (a1 : Option Addr) (len1 cap1 : Nat) (w : World) :
    Calls Yba.prog 5 #[.string a0, .slice a1 len1 cap1] w fun e w' => e = .returned (.pointer (some ⟨w.heap.size + 1, 0, none⟩)) ∧
      w' = (w.alloc (.cells #[.int .i64 0] 3)).alloc (.cells (scan w.heap.size a0 a1 len1 cap1) 28) := by
  go_enter Yba.func5, Yba.ntmps5
  go_wp2
  go_ret
  exact ⟨rfl, rfl⟩

/-- 'p != p' at two pointers to one byte: false, in whatever world. -/
theorem neq_same (w : World) (a : Addr) : (binOp .neq 29 (.pointer (some a)) (.pointer (some a))).run Yba.prog w = .ok (.bool false) w := by
  obtain ⟨j, hj⟩ : ∃ j, Yba.prog.info? 5 = some j := Option.isSome_iff_exists.1 (by kernel_rfl)
  have h : ∀ d : Nat, (Op.equalIn (d + 1) 29 (.pointer (some a)) (.pointer (some a))).run Yba.prog w = .ok true w := fun d => by
    simp [Op.equalIn, run_underlying Yba.underlying29, sizeOf, typeInfo, hj, run_sameAddr_same]
  simp only [binOp]
  simp [Op.equal, Op.maxDepth, h 9999]

/-- what lies behind: two new blocks and some draws -/
theorem below_two (w : World) (o p : Obj) (n : Nat) : Below w.heap.size w (((w.alloc o).alloc p).drewN n) :=
  below_drewN (((Below.refl _ _).alloc (Nat.le_refl _) _).alloc (by simp) _) n

set_option maxHeartbeats 1000000 in
/-- src has an element: '&s.src[0] != &src[0]' compares two addresses that are one. -/
theorem law_pos (a0 : ByteArray) (x : Addr) (len1 cap1 : Nat) (w : World) (hpos : 0 < len1) :
    Calls Yba.prog 3 #[.string a0, .slice (some x) len1 cap1] w fun e w' => e = .returned (.bool true) ∧ Below w.heap.size w w' := by
  have hq : (0:Int) < (len1 : Int) := by omega
  have e1 := @Lib.run_eql_slice_nil
  have e2 := neq_same
  go_enter Yba.func3, Yba.ntmps3
  go_wp2_with (go_at_call 5; refine (new_any _ _ _ _ _).mono ?_; rintro e w' ⟨rfl, rfl⟩; simp only [scan])
  go_quiet (fail)
  go_wp2
  go_ret
  exact ⟨rfl, below_two _ _ _ _⟩

set_option maxHeartbeats 1000000 in
/-- src has no element, nil or not. -/
theorem law_zero (a0 : ByteArray) (a1 : Option Addr) (cap1 : Nat) (w : World) :
    Calls Yba.prog 3 #[.string a0, .slice a1 0 cap1] w fun e w' => e = .returned (.bool true) ∧ Below w.heap.size w w' := by
  have e1 := @Lib.run_eql_slice_nil
  cases a1 with
  | none =>
    go_enter Yba.func3, Yba.ntmps3
    go_wp2_with (go_at_call 5; refine (new_any _ _ _ _ _).mono ?_; rintro e w' ⟨rfl, rfl⟩; simp only [scan])
    go_quiet (fail)
    go_wp2
    go_ret
    exact ⟨rfl, below_two _ _ _ _⟩
  | some x =>
    go_enter Yba.func3, Yba.ntmps3
    go_wp2_with (go_at_call 5; refine (new_any _ _ _ _ _).mono ?_; rintro e w' ⟨rfl, rfl⟩; simp only [scan])
    go_quiet (fail)
    go_wp2
    go_ret
    exact ⟨rfl, below_two _ _ _ _⟩
end Go.Proofs.Ybulkbqvg

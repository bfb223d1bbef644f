import Derived.Test.YbulkbqxkRows
import Derived.WalkKit
import Derived.WalkSpells
import Derived.WalkLawsBesides
import Derived.Below
import Derived.LaidEqlPtr
import Derived.Deep.QuietTactic
import Derived.BigQuiet
import Derived.LoopN
import Derived.OwnWalk
/-
  THE WALK OF 'LawS3377CEmpty': a tree with no root has no entry.
-/
namespace Go.Proofs.Ybulkbqxk.Empty
open Go.RowKit

set_option maxHeartbeats 400000 in
theorem entry_nil (w : World) :
    Calls Yba.prog 33 #[.pointer none] w fun e w' => e = .returned (.tuple #[.string ⟨#[]⟩, .string ⟨#[]⟩, .bool false]) ∧ w' = w := by
  go_enter Yba.func33, Yba.ntmps33
  go_wp2
  go_ret3
  exact ⟨rfl, rfl⟩

set_option maxHeartbeats 1000000 in
theorem next_nil (b off : Nat) (key : ByteArray) (after : Bool) (w : World) (h : w.cell? ⟨b, off, none⟩ = some (.pointer none)) :
    Calls Yba.prog 25 #[.pointer (some ⟨b, off, none⟩), .string key, .bool after] w fun e w' => e = .returned (.tuple #[.string ⟨#[]⟩, .string ⟨#[]⟩, .bool false]) ∧ w' = w := by
  go_enter Yba.func25, Yba.ntmps25
  go_wp2_with fail
  refine wp_loop_rounds 1 ?_
  rw [rounds_succ]
  go_wp2_with (go_at_call 33; refine (entry_nil _).mono ?_; rintro e w' ⟨rfl, rfl⟩)
  go_ret3
  exact ⟨rfl, rfl⟩

set_option maxHeartbeats 1000000 in
theorem first_nil (b off : Nat) (key : ByteArray) (w : World) (h : w.cell? ⟨b, off, none⟩ = some (.pointer none)) :
    Calls Yba.prog 11 #[.pointer (some ⟨b, off, none⟩), .string key] w fun e w' => e = .returned (.tuple #[.string ⟨#[]⟩, .string ⟨#[]⟩, .bool false]) ∧ w' = w := by
  go_enter Yba.func11, Yba.ntmps11
  go_wp2_with (go_at_call 25; refine (next_nil _ _ _ _ _ h).mono ?_; rintro e w' ⟨rfl, rfl⟩)
  go_ret3
  exact ⟨rfl, rfl⟩

set_option maxHeartbeats 1000000 in
theorem after_nil (b off : Nat) (key : ByteArray) (w : World) (h : w.cell? ⟨b, off, none⟩ = some (.pointer none)) :
    Calls Yba.prog 23 #[.pointer (some ⟨b, off, none⟩), .string key] w fun e w' => e = .returned (.tuple #[.string ⟨#[]⟩, .string ⟨#[]⟩, .bool false]) ∧ w' = w := by
  go_enter Yba.func23, Yba.ntmps23
  go_wp2_with (go_at_call 25; refine (next_nil _ _ _ _ _ h).mono ?_; rintro e w' ⟨rfl, rfl⟩)
  go_ret3
  exact ⟨rfl, rfl⟩

set_option maxHeartbeats 1000000 in
theorem beside_none (b : Nat) (kv : ByteArray) (w : World) (h : w.cell? ⟨b, 5, none⟩ = some (.pointer none)) :
    Calls Yba.prog 10 #[.pointer (some ⟨b, 0, none⟩), .string ⟨#[]⟩, .string kv] w fun e w' => e = .returned (.bool false) ∧ w' = w := by
  go_enter Yba.func10, Yba.ntmps10
  go_wp2_with (first
    | (go_at_call 11; refine (first_nil _ _ _ _ h).mono ?_; rintro e w' ⟨rfl, rfl⟩)
    | (go_at_call 23; refine (after_nil _ _ _ _ h).mono ?_; rintro e w' ⟨rfl, rfl⟩))
  go_ret
  exact ⟨rfl, rfl⟩

set_option maxHeartbeats 1000000 in
theorem beside_some (b : Nat) (key kv : ByteArray) (w : World) (h : w.cell? ⟨b, 5, none⟩ = some (.pointer none)) (hk : key.toList.isEmpty = false) :
    Calls Yba.prog 10 #[.pointer (some ⟨b, 0, none⟩), .string key, .string kv] w fun e w' => e = .returned (.bool true) ∧ w' = w := by
  go_enter Yba.func10, Yba.ntmps10
  go_wp2_with (go_at_call 11; refine (first_nil _ _ _ _ h).mono ?_; rintro e w' ⟨rfl, rfl⟩)
  go_ret
  exact ⟨rfl, rfl⟩

/-- the index's one block, as the model lays it -/
def index : Obj := .cells #[.pointer none, .int .i64 0, .string ⟨#[]⟩, .int .i64 0, .bool false, .pointer none, .map none, .string ⟨#[]⟩, .string ⟨#[]⟩, .string ⟨#[]⟩, .string ⟨#[]⟩, .string ⟨#[]⟩, .string ⟨#[]⟩, .string ⟨#[]⟩, .string ⟨#[]⟩, .string ⟨#[]⟩, .string ⟨#[]⟩, .string ⟨#[]⟩, .string ⟨#[]⟩, .string ⟨#[]⟩, .string ⟨#[]⟩, .string ⟨#[]⟩, .string ⟨#[]⟩, .nilIface] 53

theorem index_root (w : World) : (w.alloc index).cell? ⟨w.heap.size, 5, none⟩ = some (.pointer none) := by
  rw [cell_of_row (w.alloc index) w.heap.size 5 _ 53 (0, 0) (heap_alloc_new w _)]
  rfl

set_option maxHeartbeats 1000000 in
theorem law_none (kv : ByteArray) (w : World) :
    Calls Yba.prog 5 #[.string ⟨#[]⟩, .string kv] w fun e w' => e = .returned (.bool true) ∧ Grown w w' := by
  go_enter Yba.func5, Yba.ntmps5
  go_wp2_with (first
    | (go_at_call 10; refine (beside_none _ _ _ (index_root _)).mono ?_; rintro e w' ⟨rfl, rfl⟩)
    | (go_at_call 11; refine (first_nil _ _ _ _ (index_root _)).mono ?_; rintro e w' ⟨rfl, rfl⟩))
  go_ret
  exact ⟨rfl, (Grown.refl _).alloc _ _⟩

set_option maxHeartbeats 1000000 in
theorem law_some (key kv : ByteArray) (w : World) (hk : key.toList.isEmpty = false) :
    Calls Yba.prog 5 #[.string key, .string kv] w fun e w' => e = .returned (.bool true) ∧ Grown w w' := by
  go_enter Yba.func5, Yba.ntmps5
  go_wp2_with (first
    | (go_at_call 10; refine (beside_some _ _ _ _ (index_root _) hk).mono ?_; rintro e w' ⟨rfl, rfl⟩)
    | (go_at_call 11; refine (first_nil _ _ _ _ (index_root _)).mono ?_; rintro e w' ⟨rfl, rfl⟩))
  go_ret
  exact ⟨rfl, (Grown.refl _).alloc _ _⟩

theorem law (key kv : ByteArray) (w : World) :
    Calls Yba.prog 5 #[.string key, .string kv] w fun e w' => e = .returned (.bool true) ∧ Grown w w' := by
  cases hk : key.toList.isEmpty with
  | false => exact law_some key kv w hk
  | true =>
    obtain rfl : key = ⟨#[]⟩ := by
      rw [List.isEmpty_iff] at hk
      rw [show key.toList = key.data.toList from ByteArray.toList_eq key] at hk
      obtain ⟨d⟩ := key
      simp at hk
      rw [hk]
    exact law_none kv w
end Go.Proofs.Ybulkbqxk.Empty

import Derived.Test.YbulkbqvuWk
import Derived.Deep.Cut
/-
  THE WALK OF 'LawS3374BMember'.
-/
namespace Go.Proofs.Ybulkbqvu
open Go.RowKit

theorem Strs.below {w w' : World} {a : Option Addr} {n : Nat} {ss : Nat → ByteArray} (h : Strs w a n ss) (hb : Below w.heap.size w w') : Strs w' a n ss := fun j hj => by
  obtain ⟨b, off, rfl, hc⟩ := h j hj
  exact ⟨b, off, rfl, (hb.cell (p := ⟨b, off + j, none⟩) (World.block_lt_of_cell? w _ hc)).trans hc⟩

/-- n empty strings, as make lays them -/
def emp (n : Nat) : List Value := List.replicate n (.string ⟨#[]⟩)
theorem emp_len (n : Nat) : (emp n).length = n := by simp [emp]
/-- the strings as cells -/
def strs (n : Nat) (ss : Nat → ByteArray) : List Value := (List.range n).map fun j => .string (ss j)
theorem strs_len (n : Nat) (ss : Nat → ByteArray) : (strs n ss).length = n := by simp [strs]
theorem strs_get (n : Nat) (ss : Nat → ByteArray) (j : Nat) (h : j < n) : (strs n ss)[j]? = some (.string (ss j)) := by simp [strs, h]
theorem strs_one (n : Nat) (ss : Nat → ByteArray) : ∀ v ∈ strs n ss, v.oneCell' = true := by
  intro v hv
  simp only [strs, List.mem_map] at hv
  obtain ⟨j, _, rfl⟩ := hv
  rfl
theorem splice_all (n : Nat) (ss : Nat → ByteArray) : splice (emp n) 0 (strs n ss) = strs n ss := by
  unfold splice
  rw [List.take_zero, List.nil_append, List.drop_eq_nil_of_le (by rw [emp_len, strs_len]; omega), List.append_nil]

theorem info9 : (Yba.prog.info? 9).map (fun i => (i.zero, i.size, i.bytes)) = some (some (.string ⟨#[]⟩), 1, 16) := by kernel_rfl
theorem size9 : (Yba.prog.info? 9).map (·.size) = some 1 := by kernel_rfl

theorem run_mk (w : World) (n : Nat) (hn : n ≤ 4096) :
    (Instr.makeSlice 22 (.int .i64 n) (.int .i64 n)).run Yba.prog w = .ok (.slice (some ⟨w.heap.size, 0, none⟩) n n) (w.alloc (.cells (emp n).toArray 9)) := by
  obtain ⟨i, hi, hz, hs, hb⟩ := info_parts info9
  rw [run_make w 22 9 i _ Yba.underlying22 hi hz .i64 .i64 (n : Int) (n : Int) (by omega) (by omega) (by rw [hb]; omega) (by omega), hs, Nat.mul_one]
  have e : madeCells (Value.string ⟨#[]⟩).cells n = (emp n).toArray := by
    apply Array.ext
    · simp [madeCells, emp]
    · intro k h1 h2
      simp [madeCells, emp, Value.cells, Nat.mod_one]
  simp [e]

theorem strs_of_row {w : World} {g n : Nat} {ss : Nat → ByteArray} (h : w.heap[g]? = some (.cells (splice (emp n) 0 (strs n ss)).toArray 9 (0, 0))) : Strs w (some ⟨g, 0, none⟩) n ss := fun j hj => by
  refine ⟨g, 0, rfl, ?_⟩
  rw [splice_all] at h
  rw [cell_of_row w g (0 + j) _ 9 (0, 0) h]
  simpa using strs_get n ss j hj

/-- what the copy asks of its source -/
theorem src_of {w : World} {a : Option Addr} {n : Nat} {ss : Nat → ByteArray} (h : Strs w a n ss) (hp : 0 < n) : ∃ ad, a = some ad ∧ ∀ j v, (strs n ss)[j]? = some v → w.cell? (ad.add j) = some v := by
  obtain ⟨b, off, rfl, _⟩ := h 0 hp
  refine ⟨_, rfl, fun j v hv => ?_⟩
  have hj : j < n := by have := (List.getElem?_eq_some_iff.1 hv).1; simpa [strs_len] using this
  obtain ⟨b', off', e, hc⟩ := h j hj
  cases e
  rw [strs_get n ss j hj] at hv
  cases hv
  have : (⟨b, off, none⟩ : Addr).add j = ⟨b, off + j, none⟩ := by unfold Addr.add; split <;> simp_all
  rw [this]
  exact hc

set_option maxRecDepth 100000 in
set_option maxHeartbeats 1000000 in
/-- ns is not nil. -/
theorem member_some (p : Addr) (n c : Nat) (ss : Nat → ByteArray) (x : ByteArray) (w : World) (h : Strs w (some p) n ss) (hn : n ≤ 4096) :
    Calls Yba.prog 3 #[.slice (some p) n c, .string x] w fun e w' => e = .returned (.bool true) ∧ Below w.heap.size w w' := by
  have q0 : ¬ (4096 : Int) < (n : Int) := by omega
  have e1 := @run_neq_slice_nil_any
  have hmk := fun w => run_mk w n hn
  have hb1 : Hid (Below w.heap.size w (w.alloc (.cells (emp n).toArray 9))) := (Below.refl _ _).alloc (Nat.le_refl _) _
  go_enter Yba.func3, Yba.ntmps3
  go_wp2_with (refine wpList_copy_splice rfl _ _ 22 22 rfl 9 Yba.underlying22 size9 _ _ _ _ _ _ rfl rfl w.heap.size 0 (emp n) 9 (heap_alloc_new w _) (strs n ss) (by rw [strs_len]; exact (Nat.min_self n).symm) (fun hp => ⟨rfl, src_of (h.below hb1.out) (by rw [strs_len] at hp; exact hp)⟩) (by rw [strs_len, emp_len]; omega) (strs_one n ss) w.heap.size w hb1.out (Nat.le_refl _) ?_; intro w2 hg2 hb2)
  have k1 : Strs w2 (some ⟨w.heap.size, 0, none⟩) n ss := strs_of_row hg2.out
  have k2 : Strs w2 (some p) n ss := h.below hb2
  refine (names_any _ _ _ ss _ _ k1 (by omega)).mono ?_
  rintro e w3 ⟨rfl, rfl⟩
  have hb3 : Below w2.heap.size w2 (w2.alloc (.cells #[.slice (some ⟨w.heap.size, 0, none⟩) n n, .slice none 0 0] 26)) := (Below.refl _ _).alloc (Nat.le_refl _) _
  have k3 := k1.below hb3
  have k4 := k2.below hb3
  have hbf : Hid (Below w.heap.size w (w2.alloc (.cells #[.slice (some ⟨w.heap.size, 0, none⟩) n n, .slice none 0 0] 26))) := hb2.alloc hb2.size _
  obtain ⟨W, hW⟩ : ∃ W, w2.alloc (.cells #[.slice (some ⟨w.heap.size, 0, none⟩) n n, .slice none 0 0] 26) = W := ⟨_, rfl⟩
  rw [hW] at k3 k4 hbf ⊢
  obtain ⟨m, hm⟩ : ∃ m, memB ss n x = m := ⟨_, rfl⟩
  rw [hm]
  have hm' : Hid (memB ss n x = m) := hm
  clear k1 k2 hb3 hW hg2 hb2 hb1 hm h hmk
  go_wp2_with fail
  refine (member_any _ _ _ ss _ _ k4 (by omega)).mono ?_
  rintro e w4 ⟨rfl, rfl⟩
  rw [hm'.out]
  go_wp2_with fail
  go_loopg [7] n (fun g i wl => ∃ j d : Nat, j ≤ n ∧ g = n - j ∧ i = .int .i64 (j : Int) ∧ wl = w4.drewN d)
  case atStart => exact ⟨0, 0, by omega, by omega, rfl, rfl⟩
  case round =>
    obtain ⟨j, d, hj, hg, rfl, rfl⟩ := hrel
    have hg' : Hid (gk = n - j) := hg
    clear hg
    by_cases hlt : j < n
    · obtain ⟨b, off, e1, hc1⟩ := k3 j hlt
      cases e1
      obtain ⟨b, off, e2, hc2⟩ := k4 j hlt
      obtain rfl : p = ⟨b, off, none⟩ := by cases e2; rfl
      have q1 : (0 : Int) ≤ (j : Int) := by omega
      have q2 : (j : Int) < (n : Int) := by omega
      rw [Nat.zero_add] at hc1
      clear e2
      go_upto_region 15 with fail
      go_quiet (fail)
      go_wp2_with fail
      go_roundg (n - (j + 1))
      case measure => have := hg'.out; omega
      case rel => exact ⟨j + 1, _, by omega, rfl, by go_num, rfl⟩
    · obtain rfl : j = n := by omega
      go_wp2_with fail
      go_ret
      exact ⟨rfl, below_drewN hbf.out _⟩

set_option maxRecDepth 100000 in
set_option maxHeartbeats 1000000 in
/-- ns is nil. -/
theorem member_nil (c : Nat) (x : ByteArray) (w : World) :
    Calls Yba.prog 3 #[.slice none 0 c, .string x] w fun e w' => e = .returned (.bool true) ∧ Below w.heap.size w w' := by
  have e1 := @run_neq_slice_nil_any
  have k0 : ∀ (w : World) (a : Option Addr), Strs w a 0 (fun _ => ByteArray.empty) := fun w a j hj => by omega
  have m0 : Hid (memB (fun _ => ByteArray.empty) 0 x = false) := memB_false (fun j hj => by omega)
  go_enter Yba.func3, Yba.ntmps3
  go_wp2_with fail
  refine (names_any _ _ _ (fun _ => ByteArray.empty) _ _ (k0 _ _) (by omega)).mono ?_
  rintro e w3 ⟨rfl, rfl⟩
  rw [m0.out]
  go_wp2_with fail
  refine (member_any _ _ _ (fun _ => ByteArray.empty) _ _ (k0 _ _) (by omega)).mono ?_
  rintro e w4 ⟨rfl, rfl⟩
  rw [m0.out]
  go_wp2_with fail
  go_loopg [7] 0 (fun _ i wl => i = .int .i64 0 ∧ wl = w.alloc (.cells #[.slice none 0 0, .slice none 0 0] 26))
  case atStart => exact ⟨rfl, rfl⟩
  case round =>
    obtain ⟨rfl, rfl⟩ := hrel
    go_wp2_with fail
    go_ret
    exact ⟨rfl, (Below.refl _ _).alloc (Nat.le_refl _) _⟩

set_option maxHeartbeats 1000000 in
/-- more than 4,096 names -/
theorem member_long (a : Option Addr) (n c : Nat) (x : ByteArray) (w : World) (h : 4096 < n) :
    Calls Yba.prog 3 #[.slice a n c, .string x] w fun e w' => e = .returned (.bool true) ∧ Below w.heap.size w w' := by
  have q : (4096 : Int) < (n : Int) := by omega
  go_enter Yba.func3, Yba.ntmps3
  go_wp2
  go_ret
  exact ⟨rfl, Below.refl _ _⟩
end Go.Proofs.Ybulkbqvu

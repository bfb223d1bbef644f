import Derived.Test.YbulkbqvuMember
import Derived.OwnWalk
import Derived.Maps.AppendAt
/-
  THE WALK OF 'LawS3374BPicked'.
-/
namespace Go.Proofs.Ybulkbqvu
open Go.RowKit

/-- the strings that 'rest' holds -/
structure Rest (base : Nat) (w : World) (v : Value) (xs : List ByteArray) (x : ByteArray) : Prop where
  row : w.ownsRow base 9 1 v xs.length (xs.map Value.string)
  not : ∀ y, y ∈ xs → (y.toList == x.toList) = false

theorem Rest.strs {base : Nat} {w : World} {v : Value} {xs : List ByteArray} {x : ByteArray} (h : Rest base w v xs x) : ∃ a c, v = .slice a xs.length c ∧ Strs w a xs.length (fun j => xs.getD j ByteArray.empty) := by
  obtain ⟨_, ⟨rfl, h0⟩ | ⟨g, cap, cur, rfl, hb, hg, hn, hm, hs, ht⟩⟩ := h.row
  · exact ⟨none, 0, by rw [h0], fun j hj => by omega⟩
  · refine ⟨_, cap, rfl, fun j hj => ⟨g, 0, rfl, ?_⟩⟩
    rw [cell_of_row w g (0 + j) cur 9 (0, 0) hg]
    have e := congrArg (fun l => l[j]?) ht
    simp only [Nat.mul_one, List.getElem?_take, hj, if_true, Array.getElem?_toList, List.getElem?_map] at e
    rw [Nat.zero_add, e]
    simp [hj]

theorem Rest.none {base : Nat} {w : World} {v : Value} {xs : List ByteArray} {x : ByteArray} (h : Rest base w v xs x) : memB (fun j => xs.getD j ByteArray.empty) xs.length x = false :=
  memB_false (fun j hj => h.not _ (by
    show xs.getD j ByteArray.empty ∈ xs
    rw [List.getD_eq_getElem?_getD, List.getElem?_eq_getElem hj]
    exact List.getElem_mem hj))

set_option maxRecDepth 100000 in
set_option maxHeartbeats 1000000 in
theorem picked_some (p : Addr) (n c : Nat) (ss : Nat → ByteArray) (k : Int) (i : Nat) (w : World) (h : Strs w (some p) n ss) (hn : n ≤ 4096) (h0 : 0 < n) (k0 : 0 ≤ k) (ei : k % (n : Int) = (i : Int)) (hi : i < n) :
    Calls Yba.prog 4 #[.slice (some p) n c, .int .u64 k] w fun e w' => e = .returned (.bool true) ∧ Below w.heap.size w w' := by
  have q0 : ¬ (4096 : Int) < (n : Int) := by omega
  have q1 : ((n : Int) == 0) = false := by simp; omega
  have q2 : (0 : Int) < (n : Int) := by omega
  have q3 : (i : Int) < (n : Int) := by omega
  have hmk := fun w => run_mk w n hn
  have hb1 : Hid (Below w.heap.size w (w.alloc (.cells (emp n).toArray 9))) := (Below.refl _ _).alloc (Nat.le_refl _) _
  obtain ⟨pb, po, e, hci⟩ := h i hi
  obtain rfl : p = ⟨pb, po, none⟩ := by cases e; rfl
  clear e
  have hm1 : Hid (memB ss n (ss i) = true) := memB_true hi (by simp)
  go_enter Yba.func4, Yba.ntmps4
  go_wp2_with (refine wpList_copy_splice rfl _ _ 22 22 rfl 9 Yba.underlying22 size9 _ _ _ _ _ _ rfl rfl w.heap.size 0 (emp n) 9 (heap_alloc_new w _) (strs n ss) (by rw [strs_len]; exact (Nat.min_self n).symm) (fun hp => ⟨rfl, src_of (h.below hb1.out) (by rw [strs_len] at hp; exact hp)⟩) (by rw [strs_len, emp_len]; omega) (strs_one n ss) w.heap.size w hb1.out (Nat.le_refl _) ?_; intro w2 hg2 hb2)
  have k1 : Strs w2 (some ⟨w.heap.size, 0, none⟩) n ss := strs_of_row hg2.out
  refine (names_any _ _ _ ss _ _ k1 (by omega)).mono ?_
  rintro e w3 ⟨rfl, rfl⟩
  rw [hm1.out]
  have hb3 : Below w.heap.size w (w2.alloc (.cells #[.slice (some ⟨w.heap.size, 0, none⟩) n n, .slice none 0 0] 26)) := hb2.alloc hb2.size _
  obtain ⟨W, hW⟩ : ∃ W, w2.alloc (.cells #[.slice (some ⟨w.heap.size, 0, none⟩) n n, .slice none 0 0] 26) = W := ⟨_, rfl⟩
  rw [hW] at hb3 ⊢
  obtain ⟨x, hx⟩ : ∃ x, ss i = x := ⟨_, rfl⟩
  rw [hx]
  clear k1 hW hg2 hb2 hb1 hm1 hmk hci hx q3
  obtain ⟨i0, hi0, hz0, hz1, hz2⟩ := info_parts info9
  go_wp2_with fail
  go_loopg [7, 8] n (fun g v j wr => ∃ (m : Nat) (xs : List ByteArray), m ≤ n ∧ xs.length ≤ m ∧ g = n - m ∧ j = .int .i64 (m : Int) ∧ Rest w.heap.size wr v xs x ∧ Below w.heap.size w wr)
  case atStart => exact ⟨0, [], by omega, by simp, by omega, rfl, ⟨World.ownsRow_nil _ _ _ _, fun y hy => (by cases hy)⟩, hb3⟩
  case round =>
    obtain ⟨m, xs, hm, hxm, hg, rfl, hr, hbe⟩ := hrel
    have hg' : Hid (gk = n - m) := hg
    clear hg hb3
    by_cases hlt : m < n
    · obtain ⟨b, off, e, hc⟩ := h m hlt
      cases e
      have hcm : wr.cell? ⟨pb, po + m, none⟩ = some (.string (ss m)) := (hbe.cell (p := ⟨pb, po + m, none⟩) (World.block_lt_of_cell? w _ hc)).trans hc
      have hbl : pb < wr.heap.size := Nat.lt_of_lt_of_le (World.block_lt_of_cell? w _ hc) hbe.size
      have q4 : (0 : Int) ≤ (m : Int) := by omega
      have q5 : (m : Int) < (n : Int) := by omega
      have hrow := hr.row
      by_cases hx : ((ss m).toList == x.toList) = true
      · go_wp2_with fail
        go_roundg (n - (m + 1))
        case measure => have := hg'.out; omega
        case rel => exact ⟨m + 1, xs, by omega, by omega, rfl, by go_num, hr, hbe⟩
      · have hx' : ((ss m).toList == x.toList) = false := by simpa using hx
        have hx'' : Hid (((ss m).toList == x.toList) = false) := hx'
        clear hx
        go_wp2_with (at_builtin; refine wpList_append_own _ rfl _ _ 22 rfl w.heap.size 9 i0 (.string ⟨#[]⟩) 1 16 Yba.underlying22 hi0 hz0 hz1 hz2 rfl (by decide) _ _ _ rfl (hrow.alloc _) ⟨wr.heap.size, 0, none⟩ 1 1 [.string (ss m)] rfl rfl (cell_one_new _ _ _) (by simp [Value.oneCell']) (by unfold maxLen; omega) (by omega) (by have := hbe.size; simp; omega) ?_; intro v' w5 hown5 hgrow5 _)
        go_roundg (n - (m + 1))
        case measure => have := hg'.out; omega
        case rel =>
          refine ⟨m + 1, xs ++ [ss m], by omega, by simp; omega, rfl, by go_num, ⟨by simpa using hown5, fun y hy => ?_⟩, ?_⟩
          · rcases List.mem_append.1 hy with hy | hy
            · exact hr.not y hy
            · obtain rfl : y = ss m := by simpa using hy
              exact hx''.out
          · refine (hbe.alloc hbe.size _).grown hgrow5 (by have := hbe.size; simp; omega) (fun k e => ?_)
            exact (hrow.lt k e).1
    · obtain ⟨va, vc, hv, hst⟩ := hr.strs
      have hno := hr.none
      subst hv
      have hno' : Hid (memB (fun j => xs.getD j ByteArray.empty) xs.length x = false) := hno
      clear hr hno
      go_wp2_with fail
      refine (names_any _ _ _ (fun j => xs.getD j ByteArray.empty) _ _ hst (by omega)).mono ?_
      rintro e w6 ⟨rfl, rfl⟩
      rw [hno'.out]
      go_wp2_with fail
      go_ret
      exact ⟨rfl, hbe.alloc hbe.size _⟩

set_option maxHeartbeats 1000000 in
theorem picked_none (a : Option Addr) (c : Nat) (k : Int) (w : World) :
    Calls Yba.prog 4 #[.slice a 0 c, .int .u64 k] w fun e w' => e = .returned (.bool true) ∧ Below w.heap.size w w' := by
  go_enter Yba.func4, Yba.ntmps4
  go_wp2
  go_ret
  exact ⟨rfl, Below.refl _ _⟩

set_option maxHeartbeats 1000000 in
theorem picked_long (a : Option Addr) (n c : Nat) (k : Int) (w : World) (h : 4096 < n) :
    Calls Yba.prog 4 #[.slice a n c, .int .u64 k] w fun e w' => e = .returned (.bool true) ∧ Below w.heap.size w w' := by
  have q : (4096 : Int) < (n : Int) := by omega
  have q1 : ((n : Int) == 0) = false := by simp; omega
  go_enter Yba.func4, Yba.ntmps4
  go_wp2
  go_ret
  exact ⟨rfl, Below.refl _ _⟩
end Go.Proofs.Ybulkbqvu

import Derived.Test.YbulkbqvuRows
import Derived.WalkKit
import Derived.WalkSpells
import Derived.WalkLawsBesides
import Derived.Below
import Derived.Deep.LoopGhost
import Derived.Deep.QuietTactic
import Derived.BigQuiet
import Derived.Laws.CopyOwn
import Derived.Laws.MakeOwn
/-
  THE WALKS OF 'names' AND OF 'zzs3374bmember': both answer whether one of the strings is the name.
-/
namespace Go.Proofs.Ybulkbqvu
open Go.RowKit

/-- the slice at a holds the strings ss 0 .. ss (n - 1) -/
def Strs (w : World) (a : Option Addr) (n : Nat) (ss : Nat → ByteArray) : Prop := ∀ j, j < n → ∃ b off, a = some ⟨b, off, none⟩ ∧ w.cell? ⟨b, off + j, none⟩ = some (.string (ss j))

/-- one of them is x (byte by byte, as Go compares strings) -/
def memB (ss : Nat → ByteArray) (n : Nat) (x : ByteArray) : Bool := (List.range n).any fun j => (ss j).toList == x.toList

theorem memB_true {ss : Nat → ByteArray} {n : Nat} {x : ByteArray} {j : Nat} (hj : j < n) (h : ((ss j).toList == x.toList) = true) : memB ss n x = true := by
  unfold memB
  rw [List.any_eq_true]
  exact ⟨j, List.mem_range.2 hj, h⟩
theorem memB_false {ss : Nat → ByteArray} {n : Nat} {x : ByteArray} (h : ∀ j, j < n → ((ss j).toList == x.toList) = false) : memB ss n x = false := by
  unfold memB
  rw [List.any_eq_false]
  intro j hj
  rw [h j (List.mem_range.1 hj)]
  simp

set_option maxHeartbeats 1000000 in
theorem names_any (a : Option Addr) (n c : Nat) (ss : Nat → ByteArray) (x : ByteArray) (w : World) (h : Strs w a n ss) (hn : n ≤ 100000) :
    Calls Yba.prog 5 #[.agg #[.slice a n c, .slice none 0 0], .string x] w fun e w' => e = .returned (.bool (memB ss n x)) ∧ w' = w.alloc (.cells #[.slice a n c, .slice none 0 0] 26) := by
  go_enter Yba.func5, Yba.ntmps5
  go_wp2_with fail
  go_loopg [10] n (fun g i wr => ∃ j : Nat, j ≤ n ∧ g = n - j ∧ i = .int .i64 (j : Int) ∧ Hid (∀ t, t < j → ((ss t).toList == x.toList) = false) ∧ wr = w.alloc (.cells #[.slice a n c, .slice none 0 0] 26))
  case atStart => exact ⟨0, by omega, by omega, rfl, fun t ht => (by omega), rfl⟩
  case round =>
    obtain ⟨j, hj, hg, rfl, hne, rfl⟩ := hrel
    have hg' : Hid (gk = n - j) := hg
    clear hg
    by_cases hlt : j < n
    · obtain ⟨b, off, rfl, hc⟩ := h j hlt
      have hb := World.block_lt_of_cell? w _ hc
      have q0 : (0 : Int) ≤ (j : Int) := by omega
      have q1 : (j : Int) < (n : Int) := by omega
      by_cases hx : ((ss j).toList == x.toList) = true
      · have hm : Hid (memB ss n x = true) := memB_true hlt hx
        go_wp2_with fail
        go_ret
        exact ⟨by rw [hm.out]; rfl, rfl⟩
      · have hx' : ((ss j).toList == x.toList) = false := by simpa using hx
        have hm : Hid (∀ t, t < j + 1 → ((ss t).toList == x.toList) = false) := fun t ht => by
          rcases Nat.lt_succ_iff_lt_or_eq.1 ht with h | rfl
          · exact hne.out t h
          · exact hx'
        clear hx
        go_wp2_with fail
        go_roundg (n - (j + 1))
        case measure => have := hg'.out; omega
        case rel => exact ⟨j + 1, by omega, rfl, by go_num, hm, rfl⟩
    · obtain rfl : j = n := by omega
      have hm : Hid (memB ss j x = false) := memB_false hne.out
      clear hne
      go_wp2_with fail
      go_ret
      exact ⟨by rw [hm.out]; rfl, rfl⟩

set_option maxHeartbeats 1000000 in
theorem member_any (a : Option Addr) (n c : Nat) (ss : Nat → ByteArray) (x : ByteArray) (w : World) (h : Strs w a n ss) (hn : n ≤ 100000) :
    Calls Yba.prog 6 #[.slice a n c, .string x] w fun e w' => e = .returned (.bool (memB ss n x)) ∧ w' = w := by
  go_enter Yba.func6, Yba.ntmps6
  go_wp2_with fail
  go_loopg [5] n (fun g i wr => ∃ m : Nat, m ≤ n ∧ g = m ∧ i = .int .i64 ((m : Int) - 1) ∧ Hid (∀ t, m ≤ t → t < n → ((ss t).toList == x.toList) = false) ∧ w = wr)
  case atStart => exact ⟨n, by omega, rfl, rfl, fun t h1 h2 => (by omega), rfl⟩
  case round =>
    obtain ⟨m, hm, hg, hi, hne, rfl⟩ := hrel
    have hg' : Hid (gk = m) := hg
    clear hg
    cases m with
    | zero =>
      rw [show ((0 : Nat) : Int) - 1 = -1 by omega] at hi
      subst hi
      have hm : Hid (memB ss n x = false) := memB_false (fun j hj => hne.out j (by omega) hj)
      clear hne
      go_wp2_with fail
      go_ret
      exact ⟨by rw [hm.out]; rfl, rfl⟩
    | succ j =>
      rw [show ((j + 1 : Nat) : Int) - 1 = j by omega] at hi
      subst hi
      obtain ⟨b, off, rfl, hc⟩ := h j (by omega)
      have q0 : (0 : Int) ≤ (j : Int) := by omega
      have q1 : (j : Int) < (n : Int) := by omega
      by_cases hx : ((ss j).toList == x.toList) = true
      · have hm : Hid (memB ss n x = true) := memB_true (by omega) hx
        go_wp2_with fail
        go_ret
        exact ⟨by rw [hm.out]; rfl, rfl⟩
      · have hx' : ((ss j).toList == x.toList) = false := by simpa using hx
        have hm : Hid (∀ t, j ≤ t → t < n → ((ss t).toList == x.toList) = false) := fun t h1 h2 => by
          rcases Nat.eq_or_lt_of_le h1 with rfl | h
          · exact hx'
          · exact hne.out t h h2
        clear hx
        go_wp2_with fail
        go_roundg j
        case measure => have := hg'.out; omega
        case rel => exact ⟨j, by omega, rfl, rfl, hm, rfl⟩
end Go.Proofs.Ybulkbqvu

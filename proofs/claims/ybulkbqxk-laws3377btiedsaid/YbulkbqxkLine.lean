import Derived.Test.YbulkbqxkNode
/-
  THE WALKS OF 'line' AND 'findHead'.
-/
namespace Go.Proofs.Ybulkbqxk
open Go.RowKit

set_option maxHeartbeats 4000000 in
set_option maxRecDepth 100000 in
theorem line_any (g : Nat) (ia : Option Addr) (n cap c h : Nat) (H : Nat → Nat) (w : World) (c0 : w.cell? ⟨g, 0, none⟩ = some (.slice ia n cap))
    (cH : ∀ j, j < n → w.cell? ⟨g, 28 + j, none⟩ = some (.int .u64 (H j : Nat))) (hn : n ≤ 127) (hlt : ∀ i, i < n → H i < h → i < c) (hgt : ∀ i, i < n → h < H i → c ≤ i) (hc : c ≤ n) :
    Calls Yba.prog 19 #[.pointer (some ⟨g, 0, none⟩), .int .u64 (h : Int)] w fun e w' => (∃ lo hi : Nat, e = .returned (.tuple #[.int .i64 (lo : Int), .int .i64 (hi : Int)]) ∧ lo ≤ c ∧ c ≤ hi ∧ hi ≤ n) ∧ w' = w := by
  have Hf : Hid ((∀ j, j < n → w.cell? ⟨g, 28 + j, none⟩ = some (.int .u64 (H j : Nat))) ∧ (∀ i, i < n → H i < h → i < c) ∧ (∀ i, i < n → h < H i → c ≤ i)) := ⟨cH, hlt, hgt⟩
  clear cH hlt hgt
  go_enter Yba.func19, Yba.ntmps19
  go_wp2_with fail
  go_loopg [4] n (fun gg lo wr => ∃ j : Nat, j ≤ c ∧ gg = n - j ∧ lo = .int .i64 (j : Int) ∧ wr = w)
  case atStart => exact ⟨0, by omega, by omega, rfl, rfl⟩
  case round =>
    obtain ⟨j, hj, hg, rfl, rfl⟩ := hrel
    have hg' : Hid (gk = n - j) := hg
    clear hg
    have hw8 : IntKind.i64.wrap ((j : Int) + 8) = ((j + 8 : Nat) : Int) := by rw [wrap_id _ (by omega) (by omega)]; omega
    by_cases h1 : j + 8 < n
    · have q1 : ((j + 8 : Nat) : Int) < (n : Int) := by omega
      have q2 : ((j + 8 : Nat) : Int) < 127 := by omega
      have c3 := Hf.out.1 (j + 8) h1
      have f1 := Hf.out.2.1 (j + 8) h1
      have f2 := Hf.out.2.2 (j + 8) h1
      obtain ⟨m, em⟩ : ∃ m, j + 8 = m := ⟨_, rfl⟩
      rw [em] at hw8 q1 q2 c3 f1 f2
      obtain ⟨x, ex⟩ : ∃ x, H m = x := ⟨_, rfl⟩
      rw [ex] at c3 f1 f2
      clear ex
      by_cases h2 : x < h
      · have Hj : Hid (m ≤ c ∧ gk = n - j ∧ j + 8 = m ∧ m < n) := ⟨Nat.le_of_lt (f1 h2), hg'.out, em, by omega⟩
        clear f1 f2 em h1
        go_wp2_with fail
        go_roundg (n - m)
        case measure => have := Hj.out; omega
        case rel => exact ⟨m, Hj.out.1, rfl, rfl, rfl⟩
      · by_cases h3 : h < x
        · have Hj : Hid (j ≤ c ∧ c ≤ m ∧ m ≤ n) := ⟨hj, f2 h3, by omega⟩
          have q3 : decide (x < h) = false := decide_eq_false h2
          clear f1 f2 em h1
          go_wp2_with fail
          go_ret2
          exact ⟨⟨j, m, rfl, Hj.out.1, Hj.out.2.1, Hj.out.2.2⟩, rfl⟩
        · obtain rfl : x = h := by omega
          clear f1 f2 em h1
          go_wp2_with fail
          go_ret2
          exact ⟨⟨j, n, rfl, hj, hc, Nat.le_refl _⟩, rfl⟩
    · have q1 : decide (j + 8 < n) = false := decide_eq_false (by omega)
      have q2 : n ≤ j + 8 := by omega
      obtain ⟨m, em⟩ : ∃ m, j + 8 = m := ⟨_, rfl⟩
      rw [em] at hw8 q1 q2
      clear em h1
      go_wp2_with fail
      go_ret2
      exact ⟨⟨j, n, rfl, hj, hc, Nat.le_refl _⟩, rfl⟩

set_option maxHeartbeats 4000000 in
set_option maxRecDepth 100000 in
theorem find_any (p : Value) (n c h lo0 hi0 k0 : Nat) (key : ByteArray) (w : World) (hn : n ≤ 127)
    (hB : ∀ (i k : Nat), i < n → Calls Yba.prog 21 #[p, .int .i64 (i : Int), .int .u64 (h : Int), .string key] (w.drewN k) fun e w' => e = .returned (.bool (decide (i < c))) ∧ ∃ k', w' = w.drewN k')
    (h1 : lo0 ≤ c) (h2 : c ≤ hi0) (h3 : hi0 ≤ n) :
    Calls Yba.prog 20 #[p, .int .i64 (lo0 : Int), .int .i64 (hi0 : Int), .int .u64 (h : Int), .string key] (w.drewN k0) fun e w' => e = .returned (.int .i64 (c : Int)) ∧ ∃ k, w' = w.drewN k := by
  have HB : Hid (∀ (i k : Nat), i < n → Calls Yba.prog 21 #[p, .int .i64 (i : Int), .int .u64 (h : Int), .string key] (w.drewN k) fun e w' => e = .returned (.bool (decide (i < c))) ∧ ∃ k', w' = w.drewN k') := hB
  clear hB
  go_enter Yba.func20, Yba.ntmps20
  go_wp2_with fail
  go_loopg [1, 2, 11] (hi0 - lo0) (fun gg lo hi _ wr => ∃ a b k : Nat, a ≤ c ∧ c ≤ b ∧ b ≤ n ∧ gg = b - a ∧ lo = .int .i64 (a : Int) ∧ hi = .int .i64 (b : Int) ∧ wr = w.drewN k)
  case atStart => exact ⟨lo0, hi0, k0, h1, h2, h3, rfl, rfl, rfl, rfl⟩
  case round =>
    obtain ⟨a, b, k, ha, hb, hbn, hg, rfl, rfl, rfl⟩ := hrel
    have hg' : Hid (gk = b - a) := hg
    clear hg
    by_cases hlt : a < b
    · have q1 : (a : Int) < (b : Int) := by omega
      have hw1 : IntKind.i64.wrap ((a : Int) + (b : Int)) = ((a + b : Nat) : Int) := by rw [wrap_id _ (by omega) (by omega)]; omega
      obtain ⟨s, es⟩ : ∃ s, a + b = s := ⟨_, rfl⟩
      rw [es] at hw1
      have hw2 : IntKind.u64.wrap (s : Int) = (s : Int) := wraps_u64 _ (by omega) (by omega)
      go_wp2_with fail
      have em : (s : Int) / 2 = ((s / 2 : Nat) : Int) := by omega
      rw [em]
      obtain ⟨m, hm⟩ : ∃ m, s / 2 = m := ⟨_, rfl⟩
      rw [hm]
      refine (HB.out m k (by omega)).mono ?_
      rintro e w' ⟨rfl, k', rfl⟩
      have Hm : Hid (a ≤ m ∧ m < b) := ⟨by omega, by omega⟩
      have hw3 : IntKind.i64.wrap ((m : Int) + 1) = ((m + 1 : Nat) : Int) := by rw [wrap_id _ (by omega) (by omega)]; omega
      by_cases hmc : m < c
      · rw [decide_eq_true hmc]
        have Hc : Hid (m < c) := hmc
        clear hmc hw1 hw2 em hm es
        go_wp2_with fail
        go_roundg (b - (m + 1))
        case measure => have := hg'.out; have := Hm.out; omega
        case rel => exact ⟨m + 1, b, k', Hc.out, hb, hbn, rfl, by go_num, rfl, rfl⟩
      · rw [decide_eq_false hmc]
        have Hc : Hid (c ≤ m) := by have := hmc; show c ≤ m; omega
        clear hmc hw1 hw2 em hm es
        go_wp2_with fail
        go_roundg (m - a)
        case measure => have := hg'.out; have := Hm.out; omega
        case rel => exact ⟨a, m, k', ha, Hc.out, by have := Hm.out; omega, rfl, rfl, rfl, rfl⟩
    · obtain rfl : a = b := by omega
      obtain rfl : a = c := by omega
      go_wp2_with fail
      go_ret
      exact ⟨rfl, k, rfl⟩
end Go.Proofs.Ybulkbqxk

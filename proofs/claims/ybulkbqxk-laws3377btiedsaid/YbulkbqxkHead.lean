import Derived.Test.YbulkbqxkRows
import Derived.WalkKit
import Derived.WalkSpells
import Derived.WalkLawsBesides
import Derived.Below
import Derived.LoopN
import Derived.OwnWalk
import Derived.Lib.Endian
import Derived.Lib.EndianBits
import Derived.Deep.LoopGhost
import Derived.Deep.QuietTactic
import Derived.BigQuiet
/-
  THE WALKS OF 'word' AND OF 'head'.
-/
namespace Go.Proofs.Ybulkbqxk
open Go.RowKit

/-- byte j of s, 0 behind its end -/
def byt (s : ByteArray) (j : Nat) : Nat := (s.data.toList.getD j 0).toNat
theorem byt_lt (s : ByteArray) (j : Nat) : byt s j < 256 := UInt8.toNat_lt _

theorem run_idx (s : ByteArray) (i : Int) (j : Nat) (hi : i = (j : Int)) (hj : j < s.size) (w : World) : (Instr.index 9 (.string s) (.int .i64 i)).run Yba.prog w = .ok (.int .u8 (byt s j : Nat)) w := by
  subst hi
  rw [run_index_string (t := 9) (s := s) (k := .i64) (i := (j : Int)) (h := Yba.underlying9), dif_pos ⟨by omega, by omega⟩]
  have e : (s[((j : Int)).toNat]'(by omega)) = s.data.toList.getD j 0 := by
    have hj' : j < s.data.toList.length := by simpa using hj
    rw [List.getD_eq_getElem?_getD, List.getElem?_eq_getElem hj']
    rfl
  rw [e]
  rfl

/-- the number of eight bytes, the greatest first -/
def wordOf (f : Nat → Nat) : Nat :=
  f 0 * 72057594037927936 + f 1 * 281474976710656 + f 2 * 1099511627776 + f 3 * 4294967296 + f 4 * 16777216 + f 5 * 65536 + f 6 * 256 + f 7

theorem or_hi (i : Nat) (x y : Int) (hi : i ≤ 64) (hx₀ : 0 ≤ x) (hx : x % 2 ^ i = 0) (hx₁ : x < 18446744073709551616) (hy₀ : 0 ≤ y) (hy : y < 2 ^ i) : bits .or .u64 x y = x + y :=
  bits_join .u64 64 (by decide) wraps_u64 i x y hx₀ hx hx₁ hy₀ hy (Int.lt_of_lt_of_le hy (by
    have : (2 : Int) ^ i ≤ 2 ^ 64 := by exact_mod_cast Nat.pow_le_pow_right (by omega) hi
    exact this))

theorem or_all (b0 b1 b2 b3 b4 b5 b6 b7 : Nat) (h0 : b0 < 256) (h1 : b1 < 256) (h2 : b2 < 256) (h3 : b3 < 256) (h4 : b4 < 256) (h5 : b5 < 256) (h6 : b6 < 256) (h7 : b7 < 256) :
    bits .or .u64 (bits .or .u64 (bits .or .u64 (bits .or .u64 (bits .or .u64 (bits .or .u64 (bits .or .u64 ((b0 : Int) * 72057594037927936) ((b1 : Int) * 281474976710656)) ((b2 : Int) * 1099511627776)) ((b3 : Int) * 4294967296)) ((b4 : Int) * 16777216)) ((b5 : Int) * 65536)) ((b6 : Int) * 256)) (b7 : Int) =
      (b7 : Int) + (b6 : Int) * 256 + (b5 : Int) * 65536 + (b4 : Int) * 16777216 + (b3 : Int) * 4294967296 + (b2 : Int) * 1099511627776 + (b1 : Int) * 281474976710656 + (b0 : Int) * 72057594037927936 := by
  rw [or_hi 56 ((b0 : Int) * 72057594037927936) ((b1 : Int) * 281474976710656) (by omega) (by omega) (by omega) (by omega) (by omega) (by omega)]
  rw [or_hi 48 ((b0 : Int) * 72057594037927936 + (b1 : Int) * 281474976710656) ((b2 : Int) * 1099511627776) (by omega) (by omega) (by omega) (by omega) (by omega) (by omega)]
  rw [or_hi 40 ((b0 : Int) * 72057594037927936 + (b1 : Int) * 281474976710656 + (b2 : Int) * 1099511627776) ((b3 : Int) * 4294967296) (by omega) (by omega) (by omega) (by omega) (by omega) (by omega)]
  rw [or_hi 32 ((b0 : Int) * 72057594037927936 + (b1 : Int) * 281474976710656 + (b2 : Int) * 1099511627776 + (b3 : Int) * 4294967296) ((b4 : Int) * 16777216) (by omega) (by omega) (by omega) (by omega) (by omega) (by omega)]
  rw [or_hi 24 ((b0 : Int) * 72057594037927936 + (b1 : Int) * 281474976710656 + (b2 : Int) * 1099511627776 + (b3 : Int) * 4294967296 + (b4 : Int) * 16777216) ((b5 : Int) * 65536) (by omega) (by omega) (by omega) (by omega) (by omega) (by omega)]
  rw [or_hi 16 ((b0 : Int) * 72057594037927936 + (b1 : Int) * 281474976710656 + (b2 : Int) * 1099511627776 + (b3 : Int) * 4294967296 + (b4 : Int) * 16777216 + (b5 : Int) * 65536) ((b6 : Int) * 256) (by omega) (by omega) (by omega) (by omega) (by omega) (by omega)]
  rw [or_hi 8 ((b0 : Int) * 72057594037927936 + (b1 : Int) * 281474976710656 + (b2 : Int) * 1099511627776 + (b3 : Int) * 4294967296 + (b4 : Int) * 16777216 + (b5 : Int) * 65536 + (b6 : Int) * 256) ((b7 : Int)) (by omega) (by omega) (by omega) (by omega) (by omega) (by omega)]
  omega

set_option maxHeartbeats 4000000 in
set_option maxRecDepth 100000 in
theorem word_core (s : ByteArray) (b0 b1 b2 b3 b4 b5 b6 b7 : Nat) (w : World)
    (c0 : ∀ w, (Instr.index 9 (.string s) (.int .i64 0)).run Yba.prog w = .ok (.int .u8 (b0 : Int)) w)
    (c1 : ∀ w, (Instr.index 9 (.string s) (.int .i64 1)).run Yba.prog w = .ok (.int .u8 (b1 : Int)) w)
    (c2 : ∀ w, (Instr.index 9 (.string s) (.int .i64 2)).run Yba.prog w = .ok (.int .u8 (b2 : Int)) w)
    (c3 : ∀ w, (Instr.index 9 (.string s) (.int .i64 3)).run Yba.prog w = .ok (.int .u8 (b3 : Int)) w)
    (c4 : ∀ w, (Instr.index 9 (.string s) (.int .i64 4)).run Yba.prog w = .ok (.int .u8 (b4 : Int)) w)
    (c5 : ∀ w, (Instr.index 9 (.string s) (.int .i64 5)).run Yba.prog w = .ok (.int .u8 (b5 : Int)) w)
    (c6 : ∀ w, (Instr.index 9 (.string s) (.int .i64 6)).run Yba.prog w = .ok (.int .u8 (b6 : Int)) w)
    (c7 : ∀ w, (Instr.index 9 (.string s) (.int .i64 7)).run Yba.prog w = .ok (.int .u8 (b7 : Int)) w)
    (h0 : b0 < 256) (h1 : b1 < 256) (h2 : b2 < 256) (h3 : b3 < 256) (h4 : b4 < 256) (h5 : b5 < 256) (h6 : b6 < 256) (h7 : b7 < 256) :
    Calls Yba.prog 45 #[.string s] w fun e w' => e = .returned (.int .u64 ((b0 * 72057594037927936 + b1 * 281474976710656 + b2 * 1099511627776 + b3 * 4294967296 + b4 * 16777216 + b5 * 65536 + b6 * 256 + b7 : Nat) : Int)) ∧ ∃ k, w' = w.drewN k := by
  have hv : ((b0 * 72057594037927936 + b1 * 281474976710656 + b2 * 1099511627776 + b3 * 4294967296 + b4 * 16777216 + b5 * 65536 + b6 * 256 + b7 : Nat) : Int) = (b7 : Int) + (b6 : Int) * 256 + (b5 : Int) * 65536 + (b4 : Int) * 16777216 + (b3 : Int) * 4294967296 + (b2 : Int) * 1099511627776 + (b1 : Int) * 281474976710656 + (b0 : Int) * 72057594037927936 := by omega
  rw [hv]
  clear hv
  go_enter Yba.func45, Yba.ntmps45
  go_wp2
  go_quiet (fail)
  go_wp2
  go_ret
  refine ⟨?_, _, rfl⟩
  rw [← or_all b0 b1 b2 b3 b4 b5 b6 b7 h0 h1 h2 h3 h4 h5 h6 h7]
  rfl

theorem word_any (s : ByteArray) (w : World) (hs : 8 ≤ s.size) :
    Calls Yba.prog 45 #[.string s] w fun e w' => e = .returned (.int .u64 (wordOf (byt s) : Nat)) ∧ ∃ k, w' = w.drewN k :=
  word_core s _ _ _ _ _ _ _ _ w (run_idx s 0 0 rfl (by omega)) (run_idx s 1 1 rfl (by omega)) (run_idx s 2 2 rfl (by omega)) (run_idx s 3 3 rfl (by omega)) (run_idx s 4 4 rfl (by omega)) (run_idx s 5 5 rfl (by omega)) (run_idx s 6 6 rfl (by omega)) (run_idx s 7 7 rfl (by omega))
    (byt_lt s 0) (byt_lt s 1) (byt_lt s 2) (byt_lt s 3) (byt_lt s 4) (byt_lt s 5) (byt_lt s 6) (byt_lt s 7)

theorem run_sl (s : ByteArray) (i : Int) (h0 : 0 ≤ i) (h1 : i ≤ s.size) (w : World) : (Instr.slice 9 (.string s) (some (.int .i64 i)) none none).run Yba.prog w = .ok (.string (s.extract i.toNat s.size)) w :=
  run_slice_string_l (ht := Yba.underlying9) (s := s) (kl := .i64) (l := i) (h0 := h0) (h1 := h1) (w := w)

theorem byt_extract (s : ByteArray) (i j : Nat) : byt (s.extract i s.size) j = byt s (i + j) := by
  unfold byt
  congr 1
  obtain ⟨d⟩ := s
  simp only [ByteArray.data_extract, Array.toList_extract, List.getD_eq_getElem?_getD, List.extract, List.getElem?_take, List.getElem?_drop, ByteArray.size]
  by_cases h : j < d.size - i
  · simp [h]
  · rw [if_neg h, Array.getElem?_toList, Array.getElem?_eq_none (by omega)]
theorem byt_out (s : ByteArray) (j : Nat) (h : s.size ≤ j) : byt s j = 0 := by
  unfold byt
  rw [List.getD_eq_getElem?_getD, List.getElem?_eq_none (by simpa using h)]
  rfl

/-- the head of s behind its first skip bytes -/
def headN (s : ByteArray) (skip : Nat) : Nat := wordOf fun j => byt s (skip + j)

theorem wrap_id (x : Int) (h0 : -9223372036854775808 ≤ x) (h1 : x ≤ 9223372036854775807) : IntKind.i64.wrap x = x := by
  rw [IntKind.wrap_i64]; omega

set_option maxHeartbeats 4000000 in
set_option maxRecDepth 100000 in
theorem head_long (s : ByteArray) (skip : Nat) (r : Int) (w : World) (hr : (s.size : Int) - (skip : Int) = r) (h8 : 8 ≤ r) (hs : (skip : Int) ≤ (s.size : Int)) (hm : (s.size : Int) ≤ 9223372036854775807) :
    Calls Yba.prog 28 #[.string s, .int .i64 (skip : Int)] w fun e w' => e = .returned (.int .u64 (wordOf (byt (s.extract skip s.size)) : Nat)) ∧ ∃ k, w' = w.drewN k := by
  have hw : IntKind.i64.wrap ((s.size : Int) - (skip : Int)) = r := by rw [hr]; exact wrap_id r (by omega) (by omega)
  have hz : 8 ≤ (s.extract skip s.size).size := by rw [ByteArray.size_extract]; omega
  clear hr
  go_enter Yba.func28, Yba.ntmps28
  go_wp2_with (go_at_call 45; refine (word_any _ _ hz).mono ?_; rintro e w' ⟨rfl, k, rfl⟩)
  go_ret
  exact ⟨rfl, _, rfl⟩

set_option maxHeartbeats 4000000 in
set_option maxRecDepth 100000 in
theorem head_mid (s t : ByteArray) (skip r d : Nat) (w : World) (hr : IntKind.i64.wrap ((s.size : Int) - (skip : Int)) = (r : Int)) (h8 : (r : Int) < 8) (hs : (8 : Int) ≤ (s.size : Int)) (hm : (s.size : Int) ≤ 9223372036854775807)
    (hd : (8 : Int) - (r : Int) = (d : Int)) (_hd8 : (d : Int) ≤ 8) (ht : s.extract (s.size - 8) s.size = t) (hz : 8 ≤ t.size) :
    Calls Yba.prog 28 #[.string s, .int .i64 (skip : Int)] w fun e w' => e = .returned (.int .u64 (IntKind.u64.wrap (((wordOf (byt t) : Nat) : Int) * 2 ^ (8 * d)))) ∧ ∃ k, w' = w.drewN k := by
  go_enter Yba.func28, Yba.ntmps28
  go_wp2_with (go_at_call 45; refine (word_any _ _ hz).mono ?_; rintro e w' ⟨rfl, k, rfl⟩)
  go_ret
  exact ⟨rfl, _, rfl⟩

/-- the bytes gathered one by one -/
def acc (f : Nat → Nat) : Nat → Nat
  | 0 => 0
  | j + 1 => acc f j * 256 + f j
theorem acc_lt (f : Nat → Nat) (hf : ∀ j, f j < 256) : ∀ j, acc f j < 256 ^ j
  | 0 => by simp [acc]
  | j + 1 => by
    have h := acc_lt f hf j
    have h' := hf j
    rw [acc, Nat.pow_succ]
    omega

set_option maxHeartbeats 4000000 in
set_option maxRecDepth 100000 in
theorem head_short (s : ByteArray) (skip r d : Nat) (w : World) (hr : IntKind.i64.wrap ((s.size : Int) - (skip : Int)) = (r : Int)) (hsr : Hid (s.size = skip + r)) (h8 : (r : Int) < 8) (hs : (s.size : Int) < 8)
    (hd : (8 : Int) - (r : Int) = (d : Int)) (_hd8 : (d : Int) ≤ 8) :
    Calls Yba.prog 28 #[.string s, .int .i64 (skip : Int)] w fun e w' => e = .returned (.int .u64 (IntKind.u64.wrap (((acc (fun j => byt s (skip + j)) r : Nat) : Int) * 2 ^ (8 * d)))) ∧ ∃ k, w' = w.drewN k := by
  go_enter Yba.func28, Yba.ntmps28
  go_wp2_with fail
  go_loopg [6, 7] r (fun g h i wr => ∃ j x : Nat, j ≤ r ∧ g = r - j ∧ h = .int .u64 (x : Int) ∧ i = .int .i64 ((skip + j : Nat) : Int) ∧ Hid (x = acc (fun j => byt s (skip + j)) j) ∧ wr = w)
  case atStart => exact ⟨0, 0, by omega, by omega, rfl, rfl, rfl, rfl⟩
  case round =>
    obtain ⟨j, x, hj, hg, rfl, rfl, hx, rfl⟩ := hrel
    have hg' : Hid (gk = r - j) := hg
    clear hg
    by_cases hlt : j < r
    · have hb := byt_lt s (skip + j)
      have hix : ∀ w, (Instr.index 9 (.string s) (.int .i64 ((skip + j : Nat) : Int))).run Yba.prog w = .ok (.int .u8 (byt s (skip + j) : Nat)) w := fun w => run_idx s _ (skip + j) rfl (by have := hsr.out; omega) w
      have hxl : x < 256 ^ j := by rw [hx.out]; exact acc_lt _ (fun j => byt_lt s _) j
      have hxl7 : x < 72057594037927936 := Nat.lt_of_lt_of_le hxl (by
        have : (256 : Nat) ^ j ≤ 256 ^ 7 := Nat.pow_le_pow_right (by omega) (by omega)
        exact this)
      have hx' : Hid (x * 256 + byt s (skip + j) = acc (fun j => byt s (skip + j)) (j + 1)) := by
        show _ = acc _ j * 256 + _
        rw [hx.out]
      obtain ⟨b, eb⟩ : ∃ b, byt s (skip + j) = b := ⟨_, rfl⟩
      rw [eb] at hb hix hx'
      have hor : bits .or .u64 ((x : Int) * 256) (b : Int) = ((x * 256 + b : Nat) : Int) := by
        rw [or_hi 8 _ _ (by omega) (by omega) (by omega) (by omega) (by omega) (by omega)]
        omega
      have hwr : IntKind.u64.wrap ((x : Int) * 256) = (x : Int) * 256 := wraps_u64 _ (by omega) (by omega)
      have hlt' : ((skip + j : Nat) : Int) < (s.size : Int) := by have := hsr.out; omega
      have hwi : IntKind.i64.wrap (((skip + j : Nat) : Int) + 1) = ((skip + (j + 1) : Nat) : Int) := by rw [wrap_id _ (by omega) (by omega)]; omega
      obtain ⟨i, ei⟩ : ∃ i : Int, ((skip + j : Nat) : Int) = i := ⟨_, rfl⟩
      rw [ei] at hix hlt' hwi ⊢
      have hwb : IntKind.u64.wrap (b : Int) = (b : Int) := wraps_u64 _ (by omega) (by omega)
      have Hj : Hid (j < r) := hlt
      clear hxl eb ei hlt hb
      go_wp2_with fail
      go_roundg (gk - 1)
      case rel => exact ⟨j + 1, x * 256 + b, by have := Hj.out; omega, by have := hg'.out; omega, by first | rfl | (rw [hor]), by first | rfl | (congr 1), hx', rfl⟩
      case measure => have := hg'.out; have := Hj.out; omega
    · have hge : j = r := by omega
      subst hge
      have hnl : ¬ ((skip + j : Nat) : Int) < (s.size : Int) := by have := hsr.out; omega
      go_wp2_with fail
      go_ret
      rw [← hx.out]
      exact ⟨rfl, 0, rfl⟩

/-- eight bytes of which the last r stand first in g, the rest of g being 0 -/
theorem shift_word (f g : Nat → Nat) (r : Nat) (hr : r < 8) (hf : ∀ j, f j < 256) (hg : ∀ i, i < r → f (8 - r + i) = g i) (h0 : ∀ i, r ≤ i → g i = 0) :
    wordOf f * 2 ^ (8 * (8 - r)) % 18446744073709551616 = wordOf g := by
  have a0 := hf 0; have a1 := hf 1; have a2 := hf 2; have a3 := hf 3; have a4 := hf 4; have a5 := hf 5; have a6 := hf 6; have a7 := hf 7
  have z0 := h0 0; have z1 := h0 1; have z2 := h0 2; have z3 := h0 3; have z4 := h0 4; have z5 := h0 5; have z6 := h0 6; have z7 := h0 7
  have g0 := hg 0; have g1 := hg 1; have g2 := hg 2; have g3 := hg 3; have g4 := hg 4; have g5 := hg 5; have g6 := hg 6
  unfold wordOf
  obtain rfl | rfl | rfl | rfl | rfl | rfl | rfl | rfl : r = 0 ∨ r = 1 ∨ r = 2 ∨ r = 3 ∨ r = 4 ∨ r = 5 ∨ r = 6 ∨ r = 7 := by omega
  all_goals simp at z0 z1 z2 z3 z4 z5 z6 z7 g0 g1 g2 g3 g4 g5 g6
  all_goals simp only [Nat.reduceSub, Nat.reduceMul, Nat.reducePow]
  all_goals omega

theorem acc_word (g : Nat → Nat) (r : Nat) (hr : r < 8) : wordOf (fun j => if j < 8 - r then 0 else g (j - (8 - r))) = acc g r := by
  obtain rfl | rfl | rfl | rfl | rfl | rfl | rfl | rfl : r = 0 ∨ r = 1 ∨ r = 2 ∨ r = 3 ∨ r = 4 ∨ r = 5 ∨ r = 6 ∨ r = 7 := by omega
  all_goals simp [wordOf, acc]
  all_goals omega

theorem shift_acc (g : Nat → Nat) (r : Nat) (hr : r < 8) (hf : ∀ j, g j < 256) (h0 : ∀ i, r ≤ i → g i = 0) :
    acc g r * 2 ^ (8 * (8 - r)) % 18446744073709551616 = wordOf g := by
  rw [← acc_word g r hr]
  refine shift_word _ g r hr (fun j => ?_) (fun i hi => ?_) h0
  · show (if j < 8 - r then 0 else g (j - (8 - r))) < 256
    split
    · omega
    · exact hf _
  · show (if 8 - r + i < 8 - r then 0 else g (8 - r + i - (8 - r))) = g i
    rw [if_neg (by omega)]
    congr 1
    omega

theorem wrap_nat (x : Nat) : IntKind.u64.wrap (x : Int) = ((x % 18446744073709551616 : Nat) : Int) := by
  rw [IntKind.wrap_u64]; omega

/-- 'head': the eight bytes behind the first skip -/
theorem head_any (s : ByteArray) (skip : Nat) (w : World) (h : skip ≤ s.size) (hm : s.size ≤ 9223372036854775807) :
    Calls Yba.prog 28 #[.string s, .int .i64 (skip : Int)] w fun e w' => e = .returned (.int .u64 (headN s skip : Nat)) ∧ ∃ k, w' = w.drewN k := by
  by_cases h8 : skip + 8 ≤ s.size
  · have e : wordOf (byt (s.extract skip s.size)) = headN s skip := by
      unfold headN
      congr 1
      funext j
      exact byt_extract s skip j
    rw [← e]
    exact head_long s skip _ w rfl (by omega) (by omega) (by omega)
  · have hw : IntKind.i64.wrap ((s.size : Int) - (skip : Int)) = ((s.size - skip : Nat) : Int) := by rw [wrap_id _ (by omega) (by omega)]; omega
    by_cases h9 : 8 ≤ s.size
    · have e : IntKind.u64.wrap (((wordOf (byt (s.extract (s.size - 8) s.size)) : Nat) : Int) * 2 ^ (8 * (8 - (s.size - skip)))) = ((headN s skip : Nat) : Int) := by
        have := shift_word (byt (s.extract (s.size - 8) s.size)) (fun j => byt s (skip + j)) (s.size - skip) (by omega) (fun j => byt_lt _ _) (fun i hi => by
          show _ = byt s (skip + i)
          rw [byt_extract]
          congr 1
          omega) (fun i hi => byt_out s _ (by omega))
        rw [show (((wordOf (byt (s.extract (s.size - 8) s.size)) : Nat) : Int) * 2 ^ (8 * (8 - (s.size - skip)))) = ((wordOf (byt (s.extract (s.size - 8) s.size)) * 2 ^ (8 * (8 - (s.size - skip))) : Nat) : Int) by push_cast; rfl, wrap_nat, this]
        rfl
      rw [← e]
      exact head_mid s _ skip (s.size - skip) (8 - (s.size - skip)) w hw (by omega) (by omega) (by omega) (by omega) (by omega) rfl (by rw [ByteArray.size_extract]; omega)
    · have e : IntKind.u64.wrap (((acc (fun j => byt s (skip + j)) (s.size - skip) : Nat) : Int) * 2 ^ (8 * (8 - (s.size - skip)))) = ((headN s skip : Nat) : Int) := by
        have := shift_acc (fun j => byt s (skip + j)) (s.size - skip) (by omega) (fun j => byt_lt _ _) (fun i hi => byt_out s _ (by omega))
        rw [show (((acc (fun j => byt s (skip + j)) (s.size - skip) : Nat) : Int) * 2 ^ (8 * (8 - (s.size - skip)))) = ((acc (fun j => byt s (skip + j)) (s.size - skip) * 2 ^ (8 * (8 - (s.size - skip))) : Nat) : Int) by push_cast; rfl, wrap_nat, this]
        rfl
      rw [← e]
      exact head_short s skip (s.size - skip) (8 - (s.size - skip)) w hw (show Hid _ from (by omega : s.size = skip + (s.size - skip))) (by omega) (by omega) (by omega) (by omega)
end Go.Proofs.Ybulkbqxk

import Derived.Test.YbulkbqxkPlain
/-
  THE WALKS OF A NODE's SEARCH: 'before', 'is', 'line', 'findHead', 'headOf', 'outside', 'search'.
-/
namespace Go.Proofs.Ybulkbqxk
open Go.RowKit

/-- what search reads of the node in block g: its n keys ks, its skip, its prefix and its heads -/
structure Node (w : World) (g : Nat) (ia : Option Addr) (n cap : Nat) (ks : Nat → ByteArray) (skip : Nat) : Prop where
  items : w.cell? ⟨g, 0, none⟩ = some (.slice ia n cap)
  sk : w.cell? ⟨g, 2, none⟩ = some (.int .i64 skip)
  key : ∀ j, j < n → ∃ ib, ia = some ⟨ib, 0, none⟩ ∧ w.cell? ⟨ib, j * 2, none⟩ = some (.string (ks j))
  pre : ∀ j, j < 24 → j < skip → w.cell? ⟨g, 4 + j, none⟩ = some (.int .u8 (byt (ks 0) j : Nat))
  hd : ∀ j, j < n → w.cell? ⟨g, 28 + j, none⟩ = some (.int .u64 (headN (ks j) skip : Nat))
  le : n ≤ 127
  sm : ∀ j, j < n → skip ≤ (ks j).size
  mx : ∀ j, j < n → (ks j).size ≤ 9223372036854775000

theorem Node.drewN {w : World} {g : Nat} {ia : Option Addr} {n cap : Nat} {ks : Nat → ByteArray} {skip : Nat} (h : Node w g ia n cap ks skip) (k : Nat) : Node (w.drewN k) g ia n cap ks skip :=
  ⟨h.items, h.sk, h.key, h.pre, h.hd, h.le, h.sm, h.mx⟩

set_option maxHeartbeats 4000000 in
set_option maxRecDepth 100000 in
theorem before_ne (g i : Nat) (key : ByteArray) (H h : Nat) (w : World) (c3 : w.cell? ⟨g, 28 + i, none⟩ = some (.int .u64 (H : Int))) (hi : (i : Int) < 127) (hne : ((H : Int) == (h : Int)) = false) :
    Calls Yba.prog 21 #[.pointer (some ⟨g, 0, none⟩), .int .i64 (i : Int), .int .u64 (h : Int), .string key] w fun e w' => e = .returned (.bool (decide (H < h))) ∧ ∃ k, w' = w.drewN k := by
  go_enter Yba.func21, Yba.ntmps21
  go_wp2
  go_ret
  exact ⟨rfl, 0, rfl⟩

set_option maxHeartbeats 4000000 in
set_option maxRecDepth 100000 in
theorem before_short (g ib n cap i skip : Nat) (K key : ByteArray) (h : Nat) (w : World) (c3 : w.cell? ⟨g, 28 + i, none⟩ = some (.int .u64 (h : Int))) (hi : (i : Int) < 127) (hn : (i : Int) < (n : Int))
    (c0 : ∀ k, (w.drewN k).cell? ⟨g, 0, none⟩ = some (.slice (some ⟨ib, 0, none⟩) n cap)) (c2 : ∀ k, (w.drewN k).cell? ⟨g, 2, none⟩ = some (.int .i64 (skip : Int))) (ck : ∀ k, (w.drewN k).cell? ⟨ib, i * 2, none⟩ = some (.string K))
    (hs : IntKind.i64.wrap ((skip : Int) + 8) = (skip : Int) + 8) (hK : (K.size : Int) ≤ (skip : Int) + 8) (hk : (key.size : Int) ≤ (skip : Int) + 8) :
    Calls Yba.prog 21 #[.pointer (some ⟨g, 0, none⟩), .int .i64 (i : Int), .int .u64 (h : Int), .string key] w fun e w' => e = .returned (.bool (decide (K.size < key.size))) ∧ ∃ k, w' = w.drewN k := by
  go_enter Yba.func21, Yba.ntmps21
  go_wp2
  go_quiet (fail)
  go_wp2
  go_ret
  exact ⟨rfl, _, rfl⟩

set_option maxHeartbeats 4000000 in
set_option maxRecDepth 100000 in
theorem before_long1 (g ib n cap i skip : Nat) (K key : ByteArray) (h : Nat) (w : World) (c3 : w.cell? ⟨g, 28 + i, none⟩ = some (.int .u64 (h : Int))) (hi : (i : Int) < 127) (hn : (i : Int) < (n : Int))
    (c0 : ∀ k, (w.drewN k).cell? ⟨g, 0, none⟩ = some (.slice (some ⟨ib, 0, none⟩) n cap)) (c2 : ∀ k, (w.drewN k).cell? ⟨g, 2, none⟩ = some (.int .i64 (skip : Int))) (ck : ∀ k, (w.drewN k).cell? ⟨ib, i * 2, none⟩ = some (.string K))
    (hs : IntKind.i64.wrap ((skip : Int) + 8) = (skip : Int) + 8) (hK : decide ((K.size : Int) ≤ (skip : Int) + 8) = false) :
    Calls Yba.prog 21 #[.pointer (some ⟨g, 0, none⟩), .int .i64 (i : Int), .int .u64 (h : Int), .string key] w fun e w' => e = .returned (.bool (Op.bytesLess K.toList key.toList)) ∧ ∃ k, w' = w.drewN k := by
  go_enter Yba.func21, Yba.ntmps21
  go_wp2
  go_quiet (fail)
  go_wp2
  go_ret
  exact ⟨rfl, _, rfl⟩

set_option maxHeartbeats 4000000 in
set_option maxRecDepth 100000 in
theorem before_long2 (g ib n cap i skip : Nat) (K key : ByteArray) (h : Nat) (w : World) (c3 : w.cell? ⟨g, 28 + i, none⟩ = some (.int .u64 (h : Int))) (hi : (i : Int) < 127) (hn : (i : Int) < (n : Int))
    (c0 : ∀ k, (w.drewN k).cell? ⟨g, 0, none⟩ = some (.slice (some ⟨ib, 0, none⟩) n cap)) (c2 : ∀ k, (w.drewN k).cell? ⟨g, 2, none⟩ = some (.int .i64 (skip : Int))) (ck : ∀ k, (w.drewN k).cell? ⟨ib, i * 2, none⟩ = some (.string K))
    (hs : IntKind.i64.wrap ((skip : Int) + 8) = (skip : Int) + 8) (hK : (K.size : Int) ≤ (skip : Int) + 8) (hk : decide ((key.size : Int) ≤ (skip : Int) + 8) = false) :
    Calls Yba.prog 21 #[.pointer (some ⟨g, 0, none⟩), .int .i64 (i : Int), .int .u64 (h : Int), .string key] w fun e w' => e = .returned (.bool (Op.bytesLess K.toList key.toList)) ∧ ∃ k, w' = w.drewN k := by
  go_enter Yba.func21, Yba.ntmps21
  go_wp2
  go_quiet (fail)
  go_wp2
  go_ret
  exact ⟨rfl, _, rfl⟩

set_option maxHeartbeats 4000000 in
set_option maxRecDepth 100000 in
theorem is_ne (g i : Nat) (key : ByteArray) (H h : Nat) (w : World) (c3 : w.cell? ⟨g, 28 + i, none⟩ = some (.int .u64 (H : Int))) (hi : (i : Int) < 127) (hne : ((H : Int) == (h : Int)) = false) :
    Calls Yba.prog 22 #[.pointer (some ⟨g, 0, none⟩), .int .i64 (i : Int), .int .u64 (h : Int), .string key] w fun e w' => e = .returned (.bool false) ∧ ∃ k, w' = w.drewN k := by
  go_enter Yba.func22, Yba.ntmps22
  go_wp2
  go_ret
  exact ⟨rfl, 0, rfl⟩

set_option maxHeartbeats 4000000 in
set_option maxRecDepth 100000 in
theorem is_len (g ib n cap i : Nat) (K key : ByteArray) (h : Nat) (w : World) (c3 : w.cell? ⟨g, 28 + i, none⟩ = some (.int .u64 (h : Int))) (hi : (i : Int) < 127) (hn : (i : Int) < (n : Int))
    (c0 : w.cell? ⟨g, 0, none⟩ = some (.slice (some ⟨ib, 0, none⟩) n cap)) (ck : w.cell? ⟨ib, i * 2, none⟩ = some (.string K)) (hl : ((K.size : Int) == (key.size : Int)) = false) :
    Calls Yba.prog 22 #[.pointer (some ⟨g, 0, none⟩), .int .i64 (i : Int), .int .u64 (h : Int), .string key] w fun e w' => e = .returned (.bool false) ∧ ∃ k, w' = w.drewN k := by
  go_enter Yba.func22, Yba.ntmps22
  go_wp2
  go_ret
  exact ⟨rfl, 0, rfl⟩

set_option maxHeartbeats 4000000 in
set_option maxRecDepth 100000 in
theorem is_short (g ib n cap i skip : Nat) (K key : ByteArray) (h : Nat) (w : World) (c3 : w.cell? ⟨g, 28 + i, none⟩ = some (.int .u64 (h : Int))) (hi : (i : Int) < 127) (hn : (i : Int) < (n : Int))
    (c0 : w.cell? ⟨g, 0, none⟩ = some (.slice (some ⟨ib, 0, none⟩) n cap)) (ck : w.cell? ⟨ib, i * 2, none⟩ = some (.string K)) (hl : K.size = key.size) (c2 : w.cell? ⟨g, 2, none⟩ = some (.int .i64 (skip : Int)))
    (hs : IntKind.i64.wrap ((skip : Int) + 8) = (skip : Int) + 8) (hk : (key.size : Int) ≤ (skip : Int) + 8) :
    Calls Yba.prog 22 #[.pointer (some ⟨g, 0, none⟩), .int .i64 (i : Int), .int .u64 (h : Int), .string key] w fun e w' => e = .returned (.bool true) ∧ ∃ k, w' = w.drewN k := by
  go_enter Yba.func22, Yba.ntmps22
  go_wp2
  go_ret
  exact ⟨rfl, 0, rfl⟩

set_option maxHeartbeats 4000000 in
set_option maxRecDepth 100000 in
theorem is_long (g ib n cap i skip : Nat) (K key : ByteArray) (h : Nat) (w : World) (c3 : w.cell? ⟨g, 28 + i, none⟩ = some (.int .u64 (h : Int))) (hi : (i : Int) < 127) (hn : (i : Int) < (n : Int))
    (c0 : w.cell? ⟨g, 0, none⟩ = some (.slice (some ⟨ib, 0, none⟩) n cap)) (ck : w.cell? ⟨ib, i * 2, none⟩ = some (.string K)) (hl : K.size = key.size) (c2 : w.cell? ⟨g, 2, none⟩ = some (.int .i64 (skip : Int)))
    (hs : IntKind.i64.wrap ((skip : Int) + 8) = (skip : Int) + 8) (hk : decide ((key.size : Int) ≤ (skip : Int) + 8) = false) :
    Calls Yba.prog 22 #[.pointer (some ⟨g, 0, none⟩), .int .i64 (i : Int), .int .u64 (h : Int), .string key] w fun e w' => e = .returned (.bool (K.toList == key.toList)) ∧ ∃ k, w' = w.drewN k := by
  go_enter Yba.func22, Yba.ntmps22
  go_wp2
  go_ret
  exact ⟨rfl, 0, rfl⟩

theorem outside_any (p : Value) (lo hi side : Int) (w : World) :
    Calls Yba.prog 18 #[p, .int .i64 lo, .int .i64 hi, .int .i64 side] w fun e w' => e = .returned (.int .i64 (if side < 0 then lo else hi)) ∧ w' = w := by
  by_cases h : side < 0
  · rw [if_pos h]
    go_enter Yba.func18, Yba.ntmps18
    go_wp2
    go_ret
    exact ⟨rfl, rfl⟩
  · rw [if_neg h]
    go_enter Yba.func18, Yba.ntmps18
    go_wp2
    go_ret
    exact ⟨rfl, rfl⟩

/-! ### what they find, in plain words -/
section
variable {w : World} {g : Nat} {ia : Option Addr} {n cap : Nat} {ks : Nat → ByteArray} {skip : Nat}

theorem before_any (N : Node w g ia n cap ks skip) (i : Nat) (hi : i < n) (key : ByteArray) (p : Str) (hp : p.length = skip) (hK : p <+: (ks i).toList) (hk : p <+: key.toList) :
    Calls Yba.prog 21 #[.pointer (some ⟨g, 0, none⟩), .int .i64 (i : Int), .int .u64 (headN key skip : Nat), .string key] w fun e w' => e = .returned (.bool (decide ((ks i).toList < key.toList))) ∧ ∃ k, w' = w.drewN k := by
  have hle := N.le
  have hmx := N.mx i hi
  have hsm := N.sm i hi
  have eK := pre_split hK
  have ek := pre_split hk
  rw [hp] at eK ek
  obtain ⟨ib, ea, hcK⟩ := N.key i hi
  have c3 := N.hd i hi
  have c0 := N.items
  rw [ea] at c0
  have hws : IntKind.i64.wrap ((skip : Int) + 8) = (skip : Int) + 8 := wrap_id _ (by omega) (by omega)
  have sK := size_len (ks i)
  have sk := size_len key
  by_cases hne : headN (ks i) skip = headN key skip
  · rw [hne] at c3
    rw [headN_eq, headN_eq] at hne
    by_cases h1 : (ks i).size ≤ skip + 8
    · by_cases h2 : key.size ≤ skip + 8
      · have l1 : ((ks i).toList.drop skip).length ≤ 8 := by rw [List.length_drop]; omega
        have l2 : (key.toList.drop skip).length ≤ 8 := by rw [List.length_drop]; omega
        have := (of_hd_eq 8 _ _ hne l1 l2).1
        have e : decide ((ks i).toList < key.toList) = decide ((ks i).size < key.size) := by
          apply decide_eq_decide.2
          have hkl : skip ≤ key.size := by rw [← sk, ← hp]; exact hk.length_le
          rw [eK, ek, pre_lt, this, List.length_drop, List.length_drop, sK, sk]
          omega
        rw [e]
        exact before_short g ib n cap i skip (ks i) key _ w c3 (by omega) (by omega) (fun _ => c0) (fun _ => N.sk) (fun _ => hcK) hws (by omega) (by omega)
      · rw [← Go.Proofs.bytesLess_eq]
        exact before_long2 g ib n cap i skip (ks i) key _ w c3 (by omega) (by omega) (fun _ => c0) (fun _ => N.sk) (fun _ => hcK) hws (by omega) (decide_eq_false (by omega))
    · rw [← Go.Proofs.bytesLess_eq]
      exact before_long1 g ib n cap i skip (ks i) key _ w c3 (by omega) (by omega) (fun _ => c0) (fun _ => N.sk) (fun _ => hcK) hws (decide_eq_false (by omega))
  · have e : decide ((ks i).toList < key.toList) = decide (headN (ks i) skip < headN key skip) := by
      apply decide_eq_decide.2
      rw [headN_eq, headN_eq] at hne ⊢
      rw [ord_ne p _ _ hne, ← eK, ← ek]
    rw [e]
    exact before_ne g i key _ _ w c3 (by omega) (beq_eq_false_iff_ne.2 fun h => hne (Int.ofNat.inj h))

theorem is_any (N : Node w g ia n cap ks skip) (i : Nat) (hi : i < n) (key : ByteArray) (p : Str) (hp : p.length = skip) (hK : p <+: (ks i).toList) (hk : p <+: key.toList) :
    Calls Yba.prog 22 #[.pointer (some ⟨g, 0, none⟩), .int .i64 (i : Int), .int .u64 (headN key skip : Nat), .string key] w fun e w' => e = .returned (.bool (decide ((ks i).toList = key.toList))) ∧ ∃ k, w' = w.drewN k := by
  have hle := N.le
  have hmx := N.mx i hi
  have hsm := N.sm i hi
  have eK := pre_split hK
  have ek := pre_split hk
  rw [hp] at eK ek
  obtain ⟨ib, ea, hcK⟩ := N.key i hi
  have c3 := N.hd i hi
  have c0 := N.items
  rw [ea] at c0
  have hws : IntKind.i64.wrap ((skip : Int) + 8) = (skip : Int) + 8 := wrap_id _ (by omega) (by omega)
  have sK := size_len (ks i)
  have sk := size_len key
  by_cases hne : headN (ks i) skip = headN key skip
  · rw [hne] at c3
    rw [headN_eq, headN_eq] at hne
    by_cases h1 : (ks i).size = key.size
    · by_cases h2 : key.size ≤ skip + 8
      · have l1 : ((ks i).toList.drop skip).length ≤ 8 := by rw [List.length_drop]; omega
        have l2 : (key.toList.drop skip).length ≤ 8 := by rw [List.length_drop]; omega
        have := (of_hd_eq 8 _ _ hne l1 l2).2.2 (by rw [List.length_drop, List.length_drop, sK, sk, h1])
        have e : decide ((ks i).toList = key.toList) = true := decide_eq_true (by rw [eK, ek, this])
        rw [e]
        exact is_short g ib n cap i skip (ks i) key _ w c3 (by omega) (by omega) c0 hcK h1 N.sk hws (by omega)
      · have e : decide ((ks i).toList = key.toList) = ((ks i).toList == key.toList) := by rw [Bool.eq_iff_iff]; simp
        rw [e]
        exact is_long g ib n cap i skip (ks i) key _ w c3 (by omega) (by omega) c0 hcK h1 N.sk hws (decide_eq_false (by omega))
    · have e : decide ((ks i).toList = key.toList) = false := decide_eq_false (fun e => h1 (by rw [← sK, ← sk, e]))
      rw [e]
      exact is_len g ib n cap i (ks i) key _ w c3 (by omega) (by omega) c0 hcK (by simp; omega)
  · have e : decide ((ks i).toList = key.toList) = false := by
      rw [headN_eq, headN_eq] at hne
      exact decide_eq_false (by rw [eK, ek]; exact eq_ne p _ _ hne)
    rw [e]
    exact is_ne g i key _ _ w c3 (by omega) (beq_eq_false_iff_ne.2 fun h => hne (Int.ofNat.inj h))
end
end Go.Proofs.Ybulkbqxk

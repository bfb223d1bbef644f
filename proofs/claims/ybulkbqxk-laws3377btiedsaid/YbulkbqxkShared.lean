import Derived.Test.YbulkbqxkNode
import Derived.Deep.Cut
import Derived.Deep.DeepCutAuto
import Derived.Deep.RegionHeld3
import Derived.Ground.NamesProg
import Derived.Shelf.Lay
import Derived.Shelf.Small.Bits
/-
  THE WALK OF 'shared': it returns some byte.
-/
namespace Go.Proofs.Ybulkbqxk
open Go.RowKit

end Go.Proofs.Ybulkbqxk
namespace Go.Proofs.Ybulkbqxk
open Go.Shelf
shelf_lay Lays.n134 Nm 134 at Yba as Yba.laysLZ
end Go.Proofs.Ybulkbqxk
namespace Go.Proofs.Ybulkbqxk
open Go.RowKit

theorem lz_any (x : Int) (w : World) (h0 : 0 ≤ x) (h1 : x ≤ 18446744073709551615) :
    Calls Yba.prog 59 #[.int .u64 x] w fun e w' => (∃ z : Int, e = .returned (.int .i64 z)) ∧ w' = w :=
  (Any.bits_LeadingZeros64 Yba.laysLZ x w h0 h1).mono fun _ _ h => ⟨⟨_, h.1⟩, h.2⟩

set_option maxHeartbeats 4000000 in
set_option maxRecDepth 100000 in
theorem shared_any (g ib n cap i skip : Nat) (A B : ByteArray) (x y : Nat) (w : World) (h0 : 0 < i) (hi : (i : Int) < (n : Int)) (hi' : (i : Int) < 127)
    (c0 : ∀ k, (w.drewN k).cell? ⟨g, 0, none⟩ = some (.slice (some ⟨ib, 0, none⟩) n cap)) (c2 : ∀ k, (w.drewN k).cell? ⟨g, 2, none⟩ = some (.int .i64 (skip : Int)))
    (ca : ∀ k, (w.drewN k).cell? ⟨ib, (i - 1) * 2, none⟩ = some (.string A)) (cb : ∀ k, (w.drewN k).cell? ⟨ib, i * 2, none⟩ = some (.string B))
    (cx : ∀ k, (w.drewN k).cell? ⟨g, 28 + (i - 1), none⟩ = some (.int .u64 (x : Int))) (cy : ∀ k, (w.drewN k).cell? ⟨g, 28 + i, none⟩ = some (.int .u64 (y : Int)))
    (hA : A.size ≤ 9223372036854775000) (hB : B.size ≤ 9223372036854775000) (hs : skip ≤ A.size) :
    Calls Yba.prog 46 #[.pointer (some ⟨g, 0, none⟩), .int .i64 (i : Int)] w fun e w' => (∃ v : Int, e = .returned (.int .u8 v)) ∧ ∃ k, w' = w.drewN k := by
  have hw1 : IntKind.i64.wrap ((i : Int) - 1) = ((i - 1 : Nat) : Int) := by rw [wrap_id _ (by omega) (by omega)]; omega
  have q1 : ((i - 1 : Nat) : Int) < (n : Int) := by omega
  have q2 : ((i - 1 : Nat) : Int) < 127 := by omega
  obtain ⟨p, ep⟩ : ∃ p, i - 1 = p := ⟨_, rfl⟩
  rw [ep] at hw1 q1 q2 ca cx
  clear ep
  obtain ⟨D, hD⟩ : ∃ D, bits .xor .u64 (x : Int) (y : Int) = D := ⟨_, rfl⟩
  have HD : Hid (0 ≤ D ∧ D ≤ 18446744073709551615) := by
    rw [← hD]
    unfold bits
    show 0 ≤ IntKind.u64.wrap _ ∧ IntKind.u64.wrap _ ≤ _
    rw [IntKind.wrap_u64]
    omega
  obtain ⟨m, hm⟩ : ∃ m : Nat, min (A.size : Int) (B.size : Int) = (m : Int) := ⟨min A.size B.size, by omega⟩
  obtain ⟨m2, hm2⟩ : ∃ m2 : Nat, min (m : Int) 255 = (m2 : Int) := ⟨min m 255, by omega⟩
  obtain ⟨d, hd⟩ : ∃ d : Nat, min (m : Int) ((skip : Int) + 8) = (d : Int) := ⟨min m (skip + 8), by omega⟩
  have hw8 : IntKind.i64.wrap ((skip : Int) + 8) = (skip : Int) + 8 := wrap_id _ (by omega) (by omega)
  have Hm : Hid (m2 ≤ A.size ∧ m2 ≤ B.size ∧ m2 ≤ 255 ∧ d ≤ 9223372036854775000) := ⟨by omega, by omega, by omega, by omega⟩
  go_enter Yba.func46, Yba.ntmps46
  go_wp2_with fail
  go_quiet (fail)
  go_wp2_with fail
  go_quiet (fail)
  by_cases h0 : D = 0
  · subst h0
    go_wp2_with fail
    go_loopg [8] (m2 + 1 - d) (fun gg c wr => ∃ j k : Nat, d ≤ j ∧ j ≤ 9223372036854775000 ∧ gg = m2 + 1 - j ∧ c = .int .i64 (j : Int) ∧ wr = w.drewN k)
    case atStart => exact ⟨d, _, Nat.le_refl _, Hm.out.2.2.2, rfl, rfl, rfl⟩
    case round =>
      obtain ⟨j, k, hj, hjl, hg, rfl, rfl⟩ := hrel
      have hg' : Hid (gk = m2 + 1 - j) := hg
      clear hg
      by_cases hjm : j < m2
      · have q1 : (j : Int) < (m2 : Int) := by omega
        have ra : ∀ w, (Instr.index 9 (.string A) (.int .i64 (j : Int))).run Yba.prog w = .ok (.int .u8 (byt A j : Nat)) w := fun w => run_idx A _ j rfl (by have := Hm.out; omega) w
        have rb : ∀ w, (Instr.index 9 (.string B) (.int .i64 (j : Int))).run Yba.prog w = .ok (.int .u8 (byt B j : Nat)) w := fun w => run_idx B _ j rfl (by have := Hm.out; omega) w
        obtain ⟨a, ea⟩ : ∃ a, byt A j = a := ⟨_, rfl⟩
        obtain ⟨b, eb⟩ : ∃ b, byt B j = b := ⟨_, rfl⟩
        rw [ea] at ra
        rw [eb] at rb
        clear ea eb
        by_cases hab : a = b
        · subst hab
          have Hj : Hid (j < m2) := hjm
          have hw3 : IntKind.i64.wrap ((j : Int) + 1) = ((j + 1 : Nat) : Int) := by rw [wrap_id _ (by omega) (by omega)]; omega
          clear hjm
          go_wp2_with fail
          go_quiet (fail)
          go_wp2_with fail
          go_roundg (m2 + 1 - (j + 1))
          case measure => have := hg'.out; have := Hj.out; omega
          case rel => exact ⟨j + 1, _, by omega, by have := Hj.out; have := Hm.out; omega, rfl, by go_num, rfl⟩
        · have hne : ((a : Int) == (b : Int)) = false := beq_eq_false_iff_ne.2 fun h => hab (Int.ofNat.inj h)
          go_wp2_with fail
          go_quiet (fail)
          go_wp2_with fail
          go_ret
          exact ⟨⟨_, rfl⟩, _, rfl⟩
      · have q : decide (j < m2) = false := decide_eq_false hjm
        have q' : ¬ j < m2 := hjm
        go_wp2_with fail
        go_quiet (fail)
        go_wp2_with fail
        go_ret
        exact ⟨⟨_, rfl⟩, _, rfl⟩
  · have hne : (D == 0) = false := by simpa using h0
    have H0 : Hid (D ≠ 0) := h0
    clear h0
    go_upto_region 6 with fail
    go_region_held3 (fun w' => w'.cell? ⟨g, 2, none⟩ = some (.int .i64 (skip : Int))) (exact c2 0) ((go_at_call 59; refine (lz_any _ _ HD.out.1 HD.out.2).mono ?_; rintro e w' ⟨⟨z, rfl⟩, rfl⟩))
    go_wp2
    go_ret
    exact ⟨⟨_, rfl⟩, _, rfl⟩
end Go.Proofs.Ybulkbqxk

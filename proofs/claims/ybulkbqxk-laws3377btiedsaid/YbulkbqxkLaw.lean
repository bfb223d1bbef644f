import Derived.Test.YbulkbqxkBuild
/-
  THE WALK OF 'LawS3377BModel'.
-/
namespace Go.Proofs.Ybulkbqxk
open Go.RowKit Go.Sort

section
attribute [local go_sem ↓] fold_bld
set_option maxHeartbeats 4000000 in
set_option maxRecDepth 100000 in
theorem build_nil (n c : Nat) (w : World) :
    Calls Yba.prog 6 #[.slice none n c] w fun e w' => ∃ g ia m cap ks skip, e = .returned (.pointer (some ⟨g, 0, none⟩)) ∧ Good w' g ia m cap ks skip ∧ Below w.heap.size w w' := by
  have hmk : ∀ w, (Instr.makeSlice 26 (.int .i64 0) (.int .i64 0)).run Yba.prog w = .ok (.slice (some ⟨w.heap.size, 0, none⟩) 0 0) (w.alloc (.cells (zit 0) 37)) := fun w => run_mk w 0 (by omega)
  have hnd := run_node
  have hsz : (w.alloc (.cells (zit 0) 37)).heap.size = w.heap.size + 1 := by simp
  have hrow : ((w.alloc (.cells (zit 0) 37)).alloc (.cells (nodeA (some ⟨w.heap.size, 0, none⟩) 0 0) 33)).heap[w.heap.size + 1]? = some (.cells (nodeA (some ⟨w.heap.size, 0, none⟩) 0 0) 33) := by
    have := heap_alloc_new (w.alloc (.cells (zit 0) 37)) (.cells (nodeA (some ⟨w.heap.size, 0, none⟩) 0 0) 33)
    rwa [hsz] at this
  have hbb : Below w.heap.size w ((w.alloc (.cells (zit 0) 37)).alloc (.cells (nodeA (some ⟨w.heap.size, 0, none⟩) 0 0) 33)) := ((Below.refl _ _).alloc (Nat.le_refl _) _).alloc (by rw [hsz]; omega) _
  have Hcall : Hid (Calls Yba.prog 15 #[.pointer (some ⟨w.heap.size + 1, 0, none⟩)] ((w.alloc (.cells (zit 0) 37)).alloc (.cells (nodeA (some ⟨w.heap.size, 0, none⟩) 0 0) 33)) fun e w' => e = .returned (.tuple #[]) ∧ ∃ skip, Good w' (w.heap.size + 1) (some ⟨w.heap.size, 0, none⟩) 0 0 (fun _ => ByteArray.empty) skip ∧ Below w.heap.size w w') := by
    refine (reskip_zero (w.heap.size + 1) 0 (some ⟨w.heap.size, 0, none⟩) (fun _ => ByteArray.empty) _ _ hrow (nodeA_size _ _ _) (nodeA_0 _ _ _)).mono ?_
    rintro e w' ⟨rfl, hb, skip, hG⟩
    exact ⟨rfl, skip, hG, hbb.trans (hb.mono (by omega))⟩
  clear hrow hbb hsz
  go_enter Yba.func6, Yba.ntmps6
  go_wp2_with (first
    | (go_at_call 12; refine (clone_nil _ _ _).mono ?_; rintro e w' ⟨rfl, rfl⟩)
    | (go_at_call 13; refine (sort_none _ _ _).mono ?_; rintro e w' ⟨rfl, rfl⟩)
    | (go_at_call 14; refine (compact_none _ _ _).mono ?_; rintro e w' ⟨rfl, rfl⟩))
  refine wp_loop_rounds 1 ?_
  rw [rounds_succ]
  go_wp2_with fail
  refine Hcall.out.mono ?_
  rintro e w' ⟨rfl, skip, hG⟩
  have HG : Hid _ := hG
  clear hG
  go_wp2_with fail
  go_ret
  exact ⟨_, _, _, _, _, skip, rfl, HG.out⟩
end

set_option maxHeartbeats 4000000 in
set_option maxRecDepth 100000 in
theorem model_law (arg : Value) (a : Option Addr) (len cap : Nat) (ea : arg = .slice a len cap) (key : ByteArray) (w : World) (hl : len ≤ 1024) (hm : key.size ≤ 9223372036854775807)
    (hb : Calls Yba.prog 6 #[arg] w fun e w' => ∃ g ia m cap ks skip, e = .returned (.pointer (some ⟨g, 0, none⟩)) ∧ Good w' g ia m cap ks skip ∧ Below w.heap.size w w') :
    Calls Yba.prog 3 #[arg, .string key] w fun e w' => e = .returned (.bool true) ∧ Below w.heap.size w w' := by
  subst ea
  have q0 : ¬ (1024 : Int) < (len : Int) := by omega
  go_enter Yba.func3, Yba.ntmps3
  go_wp2_with fail
  refine hb.mono ?_
  rintro e w1 ⟨g, ia, m, cp, ks, skip, rfl, hG, hbel⟩
  have HG : Hid (Good w1 g ia m cp ks skip ∧ Below w.heap.size w w1) := ⟨hG, hbel⟩
  have hle := hG.node.le
  clear hG hbel
  go_wp2_with fail
  refine (check_any HG.out.1 key hm).mono ?_
  rintro e w' ⟨rfl, k, rfl⟩
  go_wp2_with fail
  go_loopg [6, 7, 8] m (fun gg x _ _ wr => ∃ j k : Nat, j ≤ m ∧ gg = m - j ∧ x = .int .i64 (j : Int) ∧ wr = w1.drewN k)
  case atStart => exact ⟨0, k, by omega, by omega, rfl, rfl⟩
  case round =>
    clear k
    obtain ⟨j, k, hj, hg, rfl, rfl⟩ := hrel
    have hg' : Hid (gk = m - j) := hg
    clear hg
    have c0 : (w1.drewN k).cell? ⟨g, 0, none⟩ = some (.slice ia m cp) := HG.out.1.node.items
    by_cases hjm : j < m
    · obtain ⟨ib, rfl, hcK⟩ := HG.out.1.node.key j hjm
      have ck : (w1.drewN k).cell? ⟨ib, j * 2, none⟩ = some (.string (ks j)) := hcK
      have q1 : (j : Int) < (m : Int) := by omega
      have Hj : Hid (j < m) := hjm
      have hw3 : IntKind.i64.wrap ((j : Int) + 1) = ((j + 1 : Nat) : Int) := by rw [wrap_id _ (by omega) (by omega)]; omega
      have Hs : Hid (Calls Yba.prog 8 #[.pointer (some ⟨g, 0, none⟩), .string (ks j)] (w1.drewN k) fun e w' => e = .returned (.tuple #[.int .i64 (j : Int), .bool true]) ∧ ∃ k', w' = (w1.drewN k).drewN k') := by
        have h := search_any (HG.out.1.drewN k) (ks j) (by have := HG.out.1.node.mx j hjm; omega) j (by omega) (fun i hi => ⟨fun hlt => by
          rcases Nat.lt_trichotomy i j with h | h | h
          · exact h
          · rw [h] at hlt; exact absurd hlt (str_irrefl _)
          · exact absurd (HG.out.1.sorted j i h hi) (str_asymm hlt), fun hij => HG.out.1.sorted i j hij hjm⟩)
        have ef : found m j ks (ks j) = true := by unfold found; rw [decide_eq_true hjm, decide_eq_true rfl]; rfl
        rw [ef] at h
        exact h
      clear hcK hjm
      go_wp2_with fail
      refine Hs.out.mono ?_
      rintro e w' ⟨rfl, k', rfl⟩
      go_wp2_with fail
      go_roundg (m - (j + 1))
      case measure => have := hg'.out; have := Hj.out; omega
      case rel => exact ⟨j + 1, _, Hj.out, rfl, by go_num, rfl⟩
    · obtain rfl : j = m := by omega
      have q1 : ¬ (j : Int) < (j : Int) := by omega
      go_wp2_with fail
      go_ret
      exact ⟨rfl, below_drewN HG.out.2 k⟩
end Go.Proofs.Ybulkbqxk

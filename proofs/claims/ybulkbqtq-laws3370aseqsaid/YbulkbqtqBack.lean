import Derived.RangeFuncNested
import Derived.RangeFuncBound
import Derived.RangeFuncCalls
import Derived.RangeFuncLeaves
import Derived.Shelf.Abstract
import Derived.Shelf.RegionOpen
import Derived.WalkKit
import Derived.OwnWalkIn
import Derived.TacticsInMore
import Derived.LoopNIn
import Derived.LoopIn
import Derived.Test.YbulkbqtqRow
/-
  slices.Backward at []*link: the function, and the contract of the iterator that it hands back.
-/
namespace Go.Proofs.Ybulkbqtq
open Go.RowKit Go.Shelf
attribute [local go_sem] Oper.semAt_some

/-- what has come while m are still to come, of the list cs from its end on -/
def dn (cs : List Nat) (m : Nat) : List (Nat × Nat) := (List.range (cs.length - m)).map fun t => (cs.length - 1 - t, cs.getD (cs.length - 1 - t) 0)
theorem dn_len (cs : List Nat) (m : Nat) : (dn cs m).length = cs.length - m := by simp [dn]
theorem dn_start (cs : List Nat) : dn cs cs.length = [] := by simp [dn]
theorem dn_step (cs : List Nat) (j : Nat) (h : j < cs.length) : dn cs j = dn cs (j + 1) ++ [(j, cs.getD j 0)] := by
  unfold dn
  rw [show cs.length - j = (cs.length - (j + 1)) + 1 by omega, List.range_succ, List.map_append]
  simp only [List.map_cons, List.map_nil]
  rw [show cs.length - 1 - (cs.length - (j + 1)) = j by omega]
/-- the blocks that have come, when all have -/
theorem dn_all (cs : List Nat) : (dn cs 0).map (·.2) = cs.reverse := by
  apply List.ext_getElem
  · simp [dn]
  · intro i h1 h2
    simp [dn] at h1 ⊢
    rw [List.getElem?_eq_getElem (by omega)]
    simp

/-- the two arguments of yield -/
abbrev enc2 (x : Nat × Nat) : Array Value := #[.int .i64 (x.1 : Int), pv x.2]

set_option maxHeartbeats 1000000 in
theorem backward_any (a : Option Addr) (len cap : Nat) (w : World) :
    Calls Yba.prog 8 #[.slice a len cap] w fun e w' => e = .returned (.func (.func 9) #[] #[pv w.heap.size]) ∧ w' = w.alloc (.cells #[.slice a len cap] 24) := by
  go_enter Yba.func8, Yba.ntmps8
  go_wp2
  go_ret
  exact ⟨rfl, rfl⟩

/-- what a round must keep: the box of the slice, and its row -/
def Kb (bx g : Nat) (W W' : World) : Prop := W'.heap[bx]? = W.heap[bx]? ∧ W'.heap[g]? = W.heap[g]?

set_option maxRecDepth 100000 in
set_option maxHeartbeats 2000000 in
theorem back1_in (n : Nat) (hn : 1 ≤ n) (l bx g cap : Nat) (cs : List Nat) (hlen : cs.length ≤ 5000) (J Jx : List (Nat × Nat) → World → Prop)
    (hY : ∀ pre x W, J pre W → pre.length < cs.length → YieldAt Fence.wide (n - 1) Yba.prog l (enc2 x) W fun e W' =>
      (e = .returned (.bool true) ∧ J (pre ++ [x]) W' ∧ Kb bx g W W') ∨ (e = .returned (.bool false) ∧ Jx (pre ++ [x]) W'))
    (W : World) (hbx : W.heap[bx]? = some (.cells #[.slice (some ⟨g, 0, none⟩) cs.length cap] 24)) (hrow : Row W (.slice (some ⟨g, 0, none⟩) cs.length cap) cs) (h0 : J [] W) :
    CallsIn Fence.wide n Yba.prog 9 #[.func (.yield l) #[] #[], pv bx] W fun e W' => (∃ v, e = .returned v) ∧
      ((∃ ys, ys = dn cs 0 ∧ J ys W') ∨ (∃ pre, True ∧ Jx pre W')) := by
  have hc0 : W.cell? ⟨bx, 0, none⟩ = some (.slice (some ⟨g, 0, none⟩) cs.length cap) := by rw [cell_of_heap hbx]; rfl
  refine callsIn_of_wp Yba.func9 rfl trivial ?_ rfl
  simp only [Yba.ntmps9, List.size_toArray, List.length_cons, List.length_nil, Nat.reduceAdd, Nat.reduceSub, Array.replicate_succ, Array.replicate_zero, List.push_toArray, List.append_toArray, List.nil_append, List.cons_append]
  gi_wp2
  gi_loopw [3] (fun i wr => ∃ m : Nat, m ≤ cs.length ∧ i = .int .i64 ((m : Int) - 1) ∧ J (dn cs m) wr ∧ Kb bx g W wr)
    (fun i _ => (intOf i + 1).toNat)
  case atStart => exact ⟨cs.length, Nat.le_refl _, rfl, by rw [dn_start]; exact h0, rfl, rfl⟩
  case round =>
    obtain ⟨m, hm, hi, hJs, hk1, hk2⟩ := hrel
    have hcb : wr.cell? ⟨bx, 0, none⟩ = some (.slice (some ⟨g, 0, none⟩) cs.length cap) := by rw [cell_of_heap (hk1.trans hbx)]; rfl
    have hrw : Row wr (.slice (some ⟨g, 0, none⟩) cs.length cap) cs := hrow.same (fun g' e => by simp [Value.ownBlock] at e; subst e; exact hk2)
    cases m with
    | zero =>
      rw [show ((0 : Nat) : Int) - 1 = -1 by omega] at hi
      subst hi
      gi_wp2
      go_end0
      exact ⟨⟨_, rfl⟩, .inl ⟨_, rfl, hJs⟩⟩
    | succ j =>
      rw [show ((j + 1 : Nat) : Int) - 1 = j by omega] at hi
      subst hi
      have hcj := hrw.at (i := j) (by omega)
      have q0 : (0 : Int) ≤ (j : Int) := by omega
      have q1 : (j : Int) < (cs.length : Int) := by omega
      obtain ⟨fn, tmps, assign, body, hy, hR⟩ := hY _ (j, cs.getD j 0) wr hJs (by rw [dn_len]; omega)
      simp only [enc2, pv] at hy hcj
      have hD := hide (dn_step cs j (by omega))
      simp only [List.getD_eq_getElem?_getD] at hcj hy hR hD
      gi_wp2
      refine hR.mono ?_
      rintro e W3 (⟨rfl, hJ3, hk3, hk4⟩ | ⟨rfl, hJx3⟩)
      · gi_wp2
        go_roundw
        case rel => exact ⟨j, by omega, rfl, by rw [unhide hD]; exact hJ3, hk3.trans hk1, hk4.trans hk2⟩
        case measure => simp [intOf]
      · gi_wp2
        refine bodyPost_ret (results_none rfl _ _ _) rfl ?_
        exact ⟨⟨_, rfl⟩, .inr ⟨_, trivial, hJx3⟩⟩

theorem back_stops (n : Nat) (hn : 1 ≤ n) (bx g cap : Nat) (cs : List Nat) (hlen : cs.length ≤ 5000) (w : World)
    (hbx : w.heap[bx]? = some (.cells #[.slice (some ⟨g, 0, none⟩) cs.length cap] 24)) (hrow : Row w (.slice (some ⟨g, 0, none⟩) cs.length cap) cs) :
    SeqStopsK Fence.wide n Yba.prog 9 #[pv bx] enc2 (Kb bx g) (fun ys => ys = dn cs 0) (fun _ => True) cs.length w := fun l J Jx W hW _ _ hY h0 => by
  refine back1_in n hn l bx g cap cs hlen J Jx hY W ((hW.block _ (lt_of_heap hbx)).trans hbx) (hrow.same fun g' e => ?_) h0
  obtain ⟨cur, hc⟩ := hrow.lt g' e
  exact hW.block _ (lt_of_heap hc)

end Go.Proofs.Ybulkbqtq

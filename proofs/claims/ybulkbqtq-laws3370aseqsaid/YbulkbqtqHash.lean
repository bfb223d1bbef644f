import Derived.Test.YbulkbqtqRows
import Derived.WalkKit
import Derived.WalkSpells
import Derived.WalkLawsBesides
import Derived.Below
import Derived.Deep.MidRow
import Derived.Deep.WholeRow
namespace Go.Proofs.Ybulkbqtq
open Go.RowKit

/-- thirty-two zero bytes -/
def z32 : Array Value := Array.replicate 32 (.int .u8 0)
theorem z32_size : z32.size = 32 := by simp [z32]
theorem z32_get (j : Nat) (h : j < 32) : z32[j]? = some (.int .u8 0) := by simp [z32, h]
/-- the cells of the hash of i -/
def hA (i : Int) : Array Value := ((z32.setIfInBounds 0 (.int .u8 (i % 256))).setIfInBounds 1 (.int .u8 (i / 256))).setIfInBounds 2 (.int .u8 7)
theorem hA_size (i : Int) : (hA i).size = 32 := by simp [hA, z32_size]

/-- 'alloc' of an array of thirty-two bytes, shut, so that the walk does not write its cells out -/
def sAlloc30 : Sem Value := Instr.alloc 30 true (.tuple #[])
theorem alloc30_fold : Instr.alloc 30 true (.tuple #[]) = sAlloc30 := rfl
theorem run_sAlloc30 (w : World) : sAlloc30.run Yba.prog w = .ok (.pointer (some ⟨w.heap.size, 0, none⟩)) (w.alloc (.cells z32 30)) := by
  kernel_rfl
theorem size30 : (Yba.prog.info? 30).map (·.size) = some 32 := by kernel_rfl

attribute [local go_sem ↓] alloc30_fold
attribute [local go_sem] z32_size z32_get run_sAlloc30

/-- a whole array stored at the head of a block, at a plain region's list -/
theorem wpList_storeRow {P : Program} {ops : Array Oper} {rest : List Oper} {op : Oper} {a : Act} {w : World} {Q : Exit → Act → World → Prop} (hgd : op.guard = none) (ty : TypeId) (x y : Operand) (ho : op.op = .store ty x y)
    (g : Nat) (t : TypeId) (old cells : Array Value) (hx : a.eval x = .pointer (some ⟨g, 0, none⟩)) (hy : a.eval y = .agg cells) (hg : w.heap[g]? = some (.cells old t (0, 0)))
    (hi : (P.info? ty).map (·.size) = some cells.size) (hs : old.size = cells.size) (h1 : cells.all (·.oneCell') = true)
    (h : wpList P ops Q rest (a.put op.dst undef) (w.setRow g cells)) : wpList P ops Q (op :: rest) a w :=
  wpList_plain hgd fun _ hK => by
    unfold Oper.wp execOp
    simp only [ho, hx, hy, Instr.storeAt, Instr.sureAddr, Sem.run_bind, Sem.run_pure, Result.andThen_ok, run_storeVar_row w g t ty old cells hg hi hs h1]
    exact hK _ _ h

theorem hA_one (i : Int) : (hA i).all (·.oneCell') = true := by
  have h : ∀ (c : Array Value) (j : Nat) (v : Value), c.all (·.oneCell') = true → v.oneCell' = true → (c.setIfInBounds j v).all (·.oneCell') = true := by
    intro c j v hc hv
    rw [Array.all_eq_true_iff_forall_mem] at hc ⊢
    intro x hx
    rcases Array.mem_or_eq_of_mem_setIfInBounds hx with h | h
    · exact hc x h
    · rw [h]; exact hv
  refine h _ _ _ (h _ _ _ (h _ _ _ ?_ rfl) rfl) rfl
  rw [Array.all_eq_true_iff_forall_mem]
  intro x hx
  simp [z32] at hx
  rw [hx]; rfl

theorem setRow_under (w : World) (c c' d : Array Value) (t t' : TypeId) : ((w.alloc (.cells c t)).alloc (.cells d t')).setRow w.heap.size c' = (w.alloc (.cells c' t)).alloc (.cells d t') := by
  simp only [World.setRow, World.alloc]
  congr 1
  apply Array.ext_getElem?
  intro i
  rw [Array.getElem?_modify]
  by_cases h : w.heap.size = i
  · subst h
    simp [Array.getElem?_push]
  · have h' : ¬ i = w.heap.size := fun e => h e.symm
    simp [h, h', Array.getElem?_push]

set_option maxHeartbeats 1000000 in
/-- 'zzs3370ahash': the thirty-two cells; two blocks more. -/
theorem hash_any (i : Int) (w : World) (h0 : 0 ≤ i) (h1 : i ≤ 5000) :
    Calls Yba.prog 6 #[.int .i64 i] w fun e w' => e = .returned (.agg (hA i)) ∧ w' = (w.alloc (.cells (hA i) 30)).alloc (.cells (hA i) 30) := by
  have hz : Hid ((Yba.prog.info? 30).map (·.size) = some (hA i).size) := by rw [hA_size]; exact size30
  have g1 : Hid (((w.alloc (.cells z32 30)).alloc (.cells (hA i) 30)).heap[w.heap.size + 1]? = some (.cells (hA i) 30)) := heap_alloc2_new w _ _
  have g0 : Hid (((w.alloc (.cells z32 30)).alloc (.cells (hA i) 30)).heap[w.heap.size]? = some (.cells z32 30)) :=
    (heap_alloc_old _ _ (by simp)).trans (heap_alloc_new w _)
  go_enter Yba.func6, Yba.ntmps6
  go_wp2_with (first
    | (refine wpList_load_row rfl 30 _ rfl (w.heap.size + 1) rfl 30 (hA i) (0, 0) _ g1.out Yba.underlying30 rfl hz.out ?_)
    | (refine wpList_storeRow rfl 30 _ _ rfl w.heap.size 30 z32 (hA i) rfl rfl g0.out hz.out (by rw [z32_size, hA_size]) (hA_one i) ?_))
  refine bodyPost_ret (v := .agg (hA i)) ?_ rfl ⟨rfl, setRow_under _ _ _ _ _ _⟩
  refine results_cell_row Yba.results6 _ _ w.heap.size 30 (hA i) (0, 0) _ rfl ?_ Yba.underlying30 rfl hz.out
  rw [show ((w.alloc (Obj.cells z32 30)).alloc (Obj.cells (((z32.setIfInBounds 0 (Value.int IntKind.u8 (i % 256))).setIfInBounds 1 (Value.int IntKind.u8 (i / 256))).setIfInBounds 2 (Value.int IntKind.u8 7)) 30)).setRow w.heap.size (hA i) = _ from setRow_under _ _ _ _ _ _]
  exact (heap_alloc_old _ _ (by simp)).trans (heap_alloc_new w _)
end Go.Proofs.Ybulkbqtq
